import PyProof.Rows.All
import Wide.All
import OpenK.AllK
import Wide.FinOn
import Lean
import PySem.Challenge.RW_vp0039_03
set_option Elab.async false
section
set_option autoImplicit false
namespace Mini
open PySem

inductive AV where
  | none | bool (b : Bool) | int (i : Int) | str (s : Str) | obj (n : Nat) | fix (v : Value)
  deriving DecidableEq, Inhabited, Repr

inductive AO where
  | list (xs : List AV)
  | tup (xs : List AV)
  | dict (es : List (Int × AV))
  | tdict (es : List (List Int × AV))
  | inst (C : Addr) (d : Nat)
  | attrs (fs : List (Str × AV))
  | cell (v : Option AV)
  | rol (xs : List AV) (o : Obj)
  deriving Inhabited

abbrev Store := List AO
abbrev Loc := List (Str × AV)

inductive EK where
  | idx | key | own (C : Addr)
  deriving DecidableEq, Inhabited, Repr

inductive RE (α : Type) where
  | ok (a : α) (σ : Store)
  | exc (k : EK) (σ : Store)
  | bad
  deriving Inhabited

def RE.bind {α β : Type} (r : RE α) (f : α → Store → RE β) : RE β := match r with
  | .ok a σ => f a σ
  | .exc k σ => .exc k σ
  | .bad => .bad

/-! core text -/
mutual
inductive CE where
  | cst (v : AV)
  | loc (x : Str)
  | cel (x : Str)
  | bop (op : BoolOp) (es : CL)
  | not (a : CE)
  | neg (a : CE)
  | bin (op : Operator) (a b : CE)
  | cmp (a : CE) (ops : List CmpOp) (es : CL)
  | attr (a : CE) (x : Str)
  | sub (a i : CE)
  | slc (a lo hi st : CE)
  | list (es : CL)
  | tup (es : CL)
  | dict (ks vs : CL)
  | call (f : CE) (es : CL) (kn : List Str) (kv : CL)
  | meth (o : CE) (x : Str) (es : CL) (kn : List Str) (kv : CL)
  | comp (elt : CE) (t : CT) (it : CI) (ifs : CL)
inductive CL where
  | nil
  | cons (e : CE) (r : CL)
inductive CI where
  | obj (e : CE)
  | range (es : CL)
  | zip (a b : CE)
inductive CT where
  | loc (x : Str)
  | cel (x : Str)
  | attr (a : CE) (x : Str)
  | sub (a i : CE)
  | tup (ts : CTs)
inductive CTs where
  | nil
  | cons (t : CT) (r : CTs)
end
deriving instance Inhabited for CE
deriving instance Inhabited for CL
deriving instance Inhabited for CI
deriving instance Inhabited for CT
deriving instance Inhabited for CTs

mutual
inductive CS where
  | expr (e : CE)
  | pass | brk | cont
  | ret (e : CE)
  | asg (ts : CTs) (e : CE)
  | aug (t : CT) (op : Operator) (e : CE)
  | ite (c : CE) (a b : CB)
  | whil (c : CE) (b : CB)
  | forr (t : CT) (it : CI) (b : CB)
  | tryE (b : CB) (x : AV) (h : CB)
  | tryF (b f : CB)
  | asrt (c : CE)
  | raise (C : CE)
inductive CB where
  | nil
  | cons (s : CS) (r : CB)
end
deriving instance Inhabited for CS
deriving instance Inhabited for CB

/-! from PySem's text to the core text -/
structure Sc where
  kind : Str → Option NameKind
  glob : Str → Option AV

def isDebug (x : Str) : Bool := x == ("__debug__" : Str) || x == ("__classdict__" : Str)
/-- no call of a bare name without arguments: what «attributeBase» looks at -/
def plainBase : Expr → Bool
  | .Call (.Name _ _) [] [] _ => false
  | _ => true
def isComp : Expr → Bool
  | .ListComp .. => true
  | .SetComp .. => true
  | .DictComp .. => true
  | _ => false
def swapFine (t v : Expr) : Bool := match t, v with
  | .Tuple _ _ _, .Tuple vs _ _ => vs.all (foldedForSure 8) || !vs.all (constantsAlone 8)
  | .List _ _, .Tuple _ _ _ => false
  | _, _ => true
def scFine (S : Str → Option NameKind) (sc : Scope) : Bool :=
  sc.kind == .function && sc.names.all (fun p => p.2 != .cell && List.lookup p.1 sc.names == some p.2 && (p.2 != .free || S p.1 == some .cell || S p.1 == some .free)) && !sc.isGenerator && !sc.isCoroutine
def constA : Const → Option AV
  | .none => some .none
  | .bool b => some (.bool b)
  | .int i => some (.int i)
  | .str s => some (.str s)
  | _ => none

def cName (S : Sc) (x : Str) : Option CE :=
  if isDebug x then none else match S.kind x with
  | some .local => some (.loc x)
  | some .cell => some (.cel x)
  | some .free => some (.cel x)
  | some .globalImplicit => (S.glob x).map .cst
  | _ => none

def isGlob (S : Sc) (f : Expr) (n : String) : Bool := match f with
  | .Name x _ => S.kind x == some .globalImplicit && x == Str.ofString n && S.glob x == some (.fix (.type n))
  | _ => false

def inner (S : Sc) (sc : Scope) : Sc := { kind := fun x => List.lookup x sc.names, glob := S.glob }

def zipFine (ci : CI) (t : Expr) : Bool := match ci, t with
  | .zip _ _, .Tuple _ _ _ => true
  | .zip _ _, _ => false
  | _, _ => true
mutual
def cE (S : Sc) : Nat → Expr → Option CE
  | 0, _ => none
  | n + 1, e => match e with
    | .Constant c _ _ => (constA c).map .cst
    | .Name x _ => cName S x
    | .BoolOp op es _ => (cL S n es).map (.bop op)
    | .UnaryOp .Not a _ => (cE S n a).map .not
    | .UnaryOp .USub a _ => (cE S n a).map .neg
    | .BinOp a op b _ => (cE S n a).bind fun a => (cE S n b).map (.bin op a)
    | .Compare a ops es _ => if ops.length != es.length then none else (cE S n a).bind fun a => (cL S n es).map (.cmp a ops)
    | .Attribute a x _ => if plainBase a then (cE S n a).map fun a => .attr a x else none
    | .Subscript a (.Slice lo hi st _) _ => (cE S n a).bind fun a => (cO S n lo).bind fun lo => (cO S n hi).bind fun hi => (cO S n st).map fun st => .slc a lo hi st
    | .Subscript a i _ => (cE S n a).bind fun a => (cE S n i).map (.sub a)
    | .List es _ => (cL S n es).map .list
    | .Tuple es _ _ => (cL S n es).map .tup
    | .Dict ks vs _ => (cKs S n ks).bind fun ks => (cL S n vs).map (.dict ks)
    | .Call (.Attribute o x ap) es kws pos => if !(plainBase o && ap.endLine == pos.line && decide (es.length + kws.length < 28)) then none else (cE S n o).bind fun o => (cL S n es).bind fun es => (cKw S n kws).map fun kv => .meth o x es kv.1 kv.2
    | .Call f es kws _ => (cE S n f).bind fun f => (cL S n es).bind fun es => (cKw S n kws).map fun kv => .call f es kv.1 kv.2
    | .ListComp elt [⟨t, it, ifs, as⟩] sc _ =>
      if as != 0 || !scFine S.kind sc then none else (cI S n it).bind fun it => if !zipFine it t then none else (cT (inner S sc) n t).bind fun t => (cL (inner S sc) n ifs).bind fun ifs => (cE (inner S sc) n elt).map fun e => .comp e t it ifs
    | _ => none
def cO (S : Sc) : Nat → Option Expr → Option CE
  | 0, _ => none
  | _ + 1, none => some (.cst .none)
  | n + 1, some e => cE S n e
def cL (S : Sc) : Nat → List Expr → Option CL
  | 0, _ => none
  | _ + 1, [] => some .nil
  | n + 1, e :: r => match e with
    | .Starred _ _ => none
    | e => (cE S n e).bind fun e => (cL S n r).map (.cons e)
def cKs (S : Sc) : Nat → List (Option Expr) → Option CL
  | 0, _ => none
  | _ + 1, [] => some .nil
  | n + 1, e :: r => e.bind fun e => (cE S n e).bind fun e => (cKs S n r).map (.cons e)
def cKw (S : Sc) : Nat → List Keyword → Option (List Str × CL)
  | 0, _ => none
  | _ + 1, [] => some ([], .nil)
  | n + 1, ⟨x, e, _⟩ :: r => x.bind fun x => (cE S n e).bind fun e => (cKw S n r).map fun p => (x :: p.1, .cons e p.2)
def cI (S : Sc) : Nat → Expr → Option CI
  | 0, _ => none
  | n + 1, e => match e with
    | .Call f es [] _ =>
      if isGlob S f "range" then (cL S n es).map .range
      else if isGlob S f "zip" then match es with
        | [a, b] => (cE S n a).bind fun a => (cE S n b).map (.zip a)
        | _ => none
      else (cE S n e).map .obj
    | e => (cE S n e).map .obj
def cT (S : Sc) : Nat → Expr → Option CT
  | 0, _ => none
  | n + 1, e => match e with
    | .Name x _ => match S.kind x with
      | some .local => some (.loc x)
      | some .cell => some (.cel x)
      | _ => none
    | .Attribute a x _ => (cE S n a).map fun a => .attr a x
    | .Subscript _ (.Slice ..) _ => none
    | .Subscript a i _ => (cE S n a).bind fun a => (cE S n i).map (.sub a)
    | .Tuple es _ _ => (cTs S n es).map .tup
    | .List es _ => (cTs S n es).map .tup
    | _ => none
def cTs (S : Sc) : Nat → List Expr → Option CTs
  | 0, _ => none
  | _ + 1, [] => some .nil
  | n + 1, t :: r => (cT S n t).bind fun t => (cTs S n r).map (.cons t)
end

mutual
def cS (S : Sc) : Nat → Stmt → Option CS
  | 0, _ => none
  | n + 1, s => match s with
    | .Expr e _ => if isComp e then none else (cE S n e).map .expr
    | .Pass _ => some .pass
    | .Break _ => some .brk
    | .Continue _ => some .cont
    | .Return none _ => some (.ret (.cst .none))
    | .Return (some e) _ => (cE S n e).map .ret
    | .Assign [t] e _ => if swapFine t e then (cT S n t).bind fun t => (cE S n e).map (.asg (.cons t .nil)) else none
    | .AugAssign t op e _ => (cT S n t).bind fun t => (cE S n e).map (.aug t op)
    | .If c a b _ => (cE S n c).bind fun c => (cB S n a).bind fun a => (cB S n b).map (.ite c a)
    | .While c b [] _ => (cE S n c).bind fun c => (cB S n b).map (.whil c)
    | .For t it b [] _ => (cI S n it).bind fun it => if !zipFine it t then none else (cT S n t).bind fun t => (cB S n b).map (.forr t it)
    | .Try b [.ExceptHandler (some x) none h _] [] [] _ => (cB S n b).bind fun b => (cE S n x).bind fun x => match x with
      | .cst x => (cB S n h).map (.tryE b x)
      | _ => none
    | .Try b [] [] (f :: fs) _ => (cB S n b).bind fun b => (cB S n (f :: fs)).map (.tryF b)
    | .Assert c none _ => (cE S n c).map .asrt
    | .Raise (some (.Call f _ [] _)) none _ => (cE S n f).map .raise
    | _ => none
def cB (S : Sc) : Nat → List Stmt → Option CB
  | 0, _ => none
  | _ + 1, [] => some .nil
  | n + 1, s :: r => (cS S n s).bind fun s => (cB S n r).map (.cons s)
end

end Mini

end

section
set_option autoImplicit false
namespace Mini
open PySem PySem.Calls PyProof.Rows

structure ClsI where
  init : Addr
  attrs : List Str
  meths : List (Str × Addr)
  props : List (Str × Addr × Addr)
  deriving Inhabited

structure IX where
  call : Addr → List AV → List (Str × AV) → Store → RE AV
  cls : Addr → Option ClsI
  W : Nat

def lim : Nat := 100000
def iBnd : Int := 18446744073709551616

def truthy (σ : Store) : AV → Option Bool
  | .none => some false
  | .bool b => some b
  | .int i => some (i != 0)
  | .obj n => match σ[n]? with
    | some (.list xs) => some (xs.length != 0)
    | some (.rol xs _) => some (xs.length != 0)
    | _ => none
  | _ => none

def lift {α : Type} (o : Option α) (σ : Store) : RE α := match o with
  | some a => .ok a σ
  | none => .bad

def alloc (o : AO) (σ : Store) : RE AV := .ok (.obj σ.length) (σ ++ [o])
def allocL (xs : List AV) (σ : Store) : RE AV := if xs.length < lim then alloc (.list xs) σ else .bad

def findAttrs (σ : Store) (d : Nat) : Option (List (Str × AV)) := match σ[d]? with
  | some (.attrs fs) => some fs
  | _ => none

def putAttr (x : Str) (v : AV) : List (Str × AV) → List (Str × AV)
  | [] => [(x, v)]
  | p :: r => if p.1 == x then (x, v) :: r else p :: putAttr x v r

def handed : AV → Bool
  | .fix _ => false
  | _ => true
def getAttrM (X : IX) (v : AV) (x : Str) (σ : Store) : RE AV := match v with
  | .obj n => match σ[n]? with
    | some (.inst C d) => match X.cls C with
      | some ci => match ci.props.lookup x with
        | some (g, _) => (X.call g [v] [] σ).bind fun r σ => if handed r then .ok r σ else .bad
        | none => if ci.attrs.contains x then lift ((findAttrs σ d).bind fun fs => (fs.lookup x).bind fun v => if handed v then some v else none) σ else .bad
      | none => .bad
    | _ => .bad
  | _ => .bad

def setAttrM (X : IX) (v : AV) (x : Str) (w : AV) (σ : Store) : RE Unit := match v with
  | .obj n => match σ[n]? with
    | some (.inst C d) => match X.cls C with
      | some ci => match ci.props.lookup x with
        | some (_, g) => (X.call g [v, w] [] σ).bind fun _ σ => .ok () σ
        | none => if ci.attrs.contains x then (match findAttrs σ d with
            | some fs => if fs.length < 900 then .ok () (σ.set d (.attrs (putAttr x w fs))) else .bad
            | none => .bad) else .bad
      | none => .bad
    | _ => .bad
  | _ => .bad

/-- equality of plain data -/
def eqAll (f : AV → AV → Option Bool) : List AV → List AV → Option Bool
  | [], [] => some true
  | x :: xs, y :: ys => (f x y).bind fun a => (eqAll f xs ys).map (a && ·)
  | _, _ => none
def eqv (σ : Store) : Nat → AV → AV → Option Bool
  | 0, _, _ => none
  | n + 1, a, b => match a, b with
    | .int i, .int j => some (i == j)
    | .bool i, .bool j => some (i == j)
    | .str i, .str j => some (i == j)
    | .obj i, .obj j => match σ[i]?, σ[j]? with
      | some (.tup xs), some (.tup ys) => eqAll (eqv σ n) xs ys
      | some (.list xs), some (.list ys) => if xs.length == ys.length then eqAll (eqv σ n) xs ys else some false
      | _, _ => none
    | _, _ => none

def intOf : AV → Option Int
  | .int i => some i
  | _ => none
def boolOf : AV → Option Bool
  | .bool b => some b
  | _ => none
def memV (v : AV) (xs : List AV) : Option Bool := match v with
  | .int i => (xs.mapM intOf).map (·.contains i)
  | .bool i => (xs.mapM boolOf).map (·.contains i)
  | _ => none
def idxV (v : AV) (xs : List AV) : Option Nat := match v with
  | .int i => (xs.mapM intOf).bind fun is => is.findIdx? (· == i)
  | _ => none

def tupInts (σ : Store) : AV → Option (List Int)
  | .obj n => match σ[n]? with
    | some (.tup xs) => xs.mapM intOf
    | _ => none
  | _ => none
/-- a dict's rows by key -/
def putKey {κ : Type} [BEq κ] (k : κ) (v : AV) : List (κ × AV) → List (κ × AV)
  | [] => [(k, v)]
  | p :: r => if p.1 == k then (p.1, v) :: r else p :: putKey k v r
def delKey {κ : Type} [BEq κ] (k : κ) : List (κ × AV) → List (κ × AV)
  | [] => []
  | p :: r => if p.1 == k then r else p :: delKey k r

def place (i : Int) (n : Nat) : Option Nat :=
  if 0 ≤ i then (if i < (n : Int) then some i.toNat else none) else (if 0 ≤ i + n then some (i + n).toNat else none)

def getItemM (v i : AV) (σ : Store) : RE AV := match v with
  | .obj n => match σ[n]?, i with
    | some (.list xs), .int i => lift ((place i xs.length).bind fun k => xs[k]?) σ
    | some (.rol xs _), .int i => lift ((place i xs.length).bind fun k => xs[k]?) σ
    | some (.tup xs), .int i => lift ((place i xs.length).bind fun k => xs[k]?) σ
    | some (.dict es), .int k => match es.lookup k with
      | some w => .ok w σ
      | none => .exc .key σ
    | some (.tdict es), i => match (tupInts σ i).bind (fun k => es.lookup k) with
      | some w => .ok w σ
      | none => .bad
    | _, _ => .bad
  | _ => .bad

def setItemM (v i w : AV) (σ : Store) : RE Unit := match v with
  | .obj n => match σ[n]?, i with
    | some (.list xs), .int i => if decide (0 ≤ i) && decide (i < (xs.length : Int)) then .ok () (σ.set n (.list (xs.set i.toNat w))) else .bad
    | some (.dict es), .int k => if es.length < lim then .ok () (σ.set n (.dict (putKey k w es))) else .bad
    | some (.tdict es), i => match tupInts σ i with
      | some k => if es.length < lim then .ok () (σ.set n (.tdict (putKey k w es))) else .bad
      | none => .bad
    | _, _ => .bad
  | _ => .bad

def partA : AV → Option (Option Int)
  | .none => some none
  | .int i => some (some i)
  | _ => none
def pickA {α : Type} (xs : List α) (lo hi st : Option Int) : List α :=
  (sliceRange (sliceBounds lo hi st xs.length).1 (sliceBounds lo hi st xs.length).2.1 (sliceBounds lo hi st xs.length).2.2).filterMap (xs[·]?)
def sliceM (v lo hi st : AV) (σ : Store) : RE AV := match v, partA lo, partA hi, partA st with
  | .obj n, some lo, some hi, some st => if st == some 0 then .bad else match σ[n]? with
    | some (.list xs) => allocL (pickA xs lo hi st) σ
    | _ => .bad
  | _, _, _, _ => .bad

def small (i : Int) : Bool := decide (-iBnd < i) && decide (i < iBnd)
def binM (op : Operator) (a b : AV) (σ : Store) : RE AV := match op, a, b with
  | .Add, .int i, .int j => .ok (.int (i + j)) σ
  | .Sub, .int i, .int j => .ok (.int (i - j)) σ
  | .Mult, .int i, .int j => if small i && small j then .ok (.int (i * j)) σ else .bad
  | .FloorDiv, .int i, .int j => if j == 0 || !decide (j.natAbs < 1073741824) then .bad else .ok (.int (i.fdiv j)) σ
  | .Mod, .int i, .int j => if j == 0 then .bad else .ok (.int (i.fmod j)) σ
  | .LShift, .int i, .int j => if decide (0 ≤ j) && decide (j ≤ 1000) && small i then .ok (.int (i * 2 ^ j.toNat)) σ else .bad
  | .Add, .str x, .str y => if x.length + y.length < lim then .ok (.str (x ++ y)) σ else .bad
  | .Mult, .str x, .int j => if decide (0 ≤ j) && decide (j < 1000) && decide (x.length < 1000) then .ok (.str (Txt.mul x j)) σ else .bad
  | .Add, .obj n, .obj m => match σ[n]?, σ[m]? with
    | some (.list xs), some (.list ys) => if xs.length + ys.length < lim then alloc (.list (xs ++ ys)) σ else .bad
    | some (.tup xs), some (.tup ys) => if xs.isEmpty then .ok (.obj m) σ else if ys.isEmpty then .ok (.obj n) σ else if xs.length + ys.length < lim then alloc (.tup (xs ++ ys)) σ else .bad
    | _, _ => .bad
  | .Mult, .obj n, .int j => match σ[n]? with
    | some (.list [x]) => if decide (0 ≤ j) && decide (j < 1000) then alloc (.list (List.replicate j.toNat x)) σ else .bad
    | _ => .bad
  | _, _, _ => .bad

def userEq : Str := Str.ofString "__eq__"
def userLt : Str := Str.ofString "__lt__"
def instCls (σ : Store) (v : AV) : Option Addr := match v with
  | .obj n => match σ[n]? with
    | some (.inst C _) => some C
    | _ => none
  | _ => none
def userCmp (X : IX) (m : Str) (a b : AV) (σ : Store) : RE AV := match instCls σ a, instCls σ b with
  | some C, some D => if C == D then match (X.cls C).bind fun ci => ci.meths.lookup m with
    | some f => (X.call f [a, b] [] σ).bind fun r σ => match r with
      | .bool c => .ok (.bool c) σ
      | _ => .bad
    | none => .bad else .bad
  | _, _ => .bad
def isInst (σ : Store) (v : AV) : Bool := (instCls σ v).isSome
def containsM (σ : Store) (v : AV) (c : AV) : Option Bool := match c with
  | .obj n => match σ[n]? with
    | some (.list xs) => memV v xs
    | some (.dict es) => match v with
      | .int k => some (es.lookup k).isSome
      | _ => none
    | _ => none
  | _ => none
def cmpP (op : CmpOp) (a b : AV) (σ : Store) : Option Bool := match op, a, b with
  | .Lt, .int i, .int j => some (decide (i < j))
  | .LtE, .int i, .int j => some (decide (i ≤ j))
  | .Gt, .int i, .int j => some (decide (j < i))
  | .GtE, .int i, .int j => some (decide (j ≤ i))
  | .NotEq, .int i, .int j => some (i != j)
  | .Eq, a, b => eqv σ 3 a b
  | .Is, .none, .none => some true
  | .Is, .int _, .none => some false
  | .In, v, c => containsM σ v c
  | .NotIn, v, c => (containsM σ v c).map (!·)
  | _, _, _ => none
def cmpM (X : IX) (op : CmpOp) (a b : AV) (σ : Store) : RE AV :=
  if isInst σ a then (match op with
    | .Lt => userCmp X userLt a b σ
    | .Eq => userCmp X userEq a b σ
    | _ => .bad)
  else (lift (cmpP op a b σ) σ).bind fun r σ => .ok (.bool r) σ

/-! sorting: ints, or tuples of ints -/
def lexLt : List Int → List Int → Bool
  | x :: xs, y :: ys => if x == y then lexLt xs ys else decide (x < y)
  | _, _ => false
def kasRun {α : Type} (lt : Nat → Nat → Bool) : W.KasT α → α
  | .ret a => a
  | .ask i j k => kasRun lt (k (lt i j))
def sortIdx (n : Nat) (lt : Nat → Nat → Bool) : List Nat := if n < 2 then List.range n else (kasRun lt (W.kas_sort n)).toList
def sortKeys (σ : Store) (xs : List AV) : Option (List (List Int)) := match xs.mapM intOf with
  | some is => some (is.map fun i => [i])
  | none => (xs.mapM (tupInts σ)).bind fun ks => if ks.all fun k => k.length == (ks.headD []).length && k.length != 0 then some ks else none
def sortA (σ : Store) (xs : List AV) : Option (List AV) := if xs.length < 64 then (sortKeys σ xs).map fun ks =>
  (sortIdx xs.length fun i j => lexLt (ks.getD i []) (ks.getD j [])).map fun i => xs.getD i .none else none

def isInstM (v c : AV) (σ : Store) : Option Bool := match c, v with
  | .fix (.type "int"), .int _ => some true
  | .fix (.type "bool"), .int _ => some false
  | .fix (.ref C), v => match instCls σ v with
    | some D => if D == C then some true else none
    | none => none
  | _, _ => none

def lenM (v : AV) (σ : Store) : Option Nat := match v with
  | .obj n => match σ[n]? with
    | some (.list xs) => some xs.length
    | some (.rol xs _) => some xs.length
    | some (.tup xs) => some xs.length
    | some (.dict es) => some es.length
    | _ => none
  | .str x => if x.length < lim then some x.length else none
  | _ => none
def sumM (v : AV) (σ : Store) : Option Int := match v with
  | .obj n => match σ[n]? with
    | some (.list xs) => (xs.mapM intOf).map (·.sum)
    | _ => none
  | _ => none
def builtinM (f : String) (args : List AV) (σ : Store) : RE AV := match f, args with
  | "len", [v] => (lift (lenM v σ) σ).bind fun n σ => .ok (.int n) σ
  | "isinstance", [v, c] => (lift (isInstM v c σ) σ).bind fun b σ => .ok (.bool b) σ
  | "sum", [v] => (lift (sumM v σ) σ).bind fun i σ => .ok (.int i) σ
  | "sorted", [.obj n] => match σ[n]? with
    | some (.list xs) => (lift (sortA σ xs) σ).bind fun ys σ => alloc (.list ys) σ
    | _ => .bad
  | _, _ => .bad
def typeM (f : String) (args : List AV) (σ : Store) : RE AV := match f, args with
  | "tuple", [.obj n] => match σ[n]? with
    | some (.list xs) => alloc (.tup xs) σ
    | _ => .bad
  | _, _ => .bad

def listMeth (n : Nat) (xs : List AV) (x : Str) (args : List AV) (σ : Store) (X : IX) : RE AV :=
  if x == ("append" : Str) then match args with
    | [v] => if xs.length < lim then .ok .none (σ.set n (.list (xs ++ [v]))) else .bad
    | _ => .bad
  else if x == ("pop" : Str) then match args with
    | [.int i] => if xs.isEmpty then .exc .idx σ else match place i xs.length with
      | some k => match xs[k]? with
        | some v => .ok v (σ.set n (.list (xs.eraseIdx k)))
        | none => .bad
      | none => .bad
    | _ => .bad
  else if x == ("insert" : Str) then match args with
    | [.int i, v] => if decide (0 ≤ i) && decide (i ≤ (xs.length : Int)) && decide (xs.length < lim) then .ok .none (σ.set n (.list (xs.take i.toNat ++ v :: xs.drop i.toNat))) else .bad
    | _ => .bad
  else if x == ("extend" : Str) then match args with
    | [.obj m] => match σ[m]? with
      | some (.list ys) => if m != n && decide (xs.length + ys.length < lim) then .ok .none (σ.set n (.list (xs ++ ys))) else .bad
      | _ => .bad
    | _ => .bad
  else if x == ("reverse" : Str) then match args with
    | [] => .ok .none (σ.set n (.list xs.reverse))
    | _ => .bad
  else if x == ("sort" : Str) then match args with
    | [] => (lift (sortA σ xs) σ).bind fun ys σ => .ok .none (σ.set n (.list ys))
    | _ => .bad
  else if x == ("index" : Str) then match args with
    | [v] => (lift (idxV v xs) σ).bind fun i σ => .ok (.int i) σ
    | _ => .bad
  else .bad

inductive MV where
  | fn (f : Addr)
  | lst (id : String)
  deriving Inhabited
def listIds : List (Str × String) := [("append", "list.append"), ("pop", "list.pop"), ("insert", "list.insert"), ("extend", "list.extend"), ("reverse", "list.reverse"), ("sort", "list.sort"), ("index", "list.index"), ("remove", "list.remove")]
/-- the method that a name stands for -/
def findM (X : IX) (o : AV) (x : Str) (σ : Store) : Option MV := match o with
  | .obj n => match σ[n]? with
    | some (.inst C d) => match X.cls C with
      | some ci => match ci.meths.lookup x, findAttrs σ d with
        | some f, some fs => match fs.lookup x with
          | none => some (.fn f)
          | some _ => none
        | _, _ => none
      | none => none
    | some (.list _) => (listIds.lookup x).map .lst
    | _ => none
  | _ => none
def methM (X : IX) (f : MV) (o : AV) (x : Str) (args : List AV) (kw : List (Str × AV)) (σ : Store) : RE AV := match f with
  | .fn f => X.call f (o :: args) kw σ
  | .lst _ => match o, kw with
    | .obj n, [] => match σ[n]? with
      | some (.list xs) => listMeth n xs x args σ X
      | _ => .bad
    | _, _ => .bad

def callM (X : IX) (f : AV) (args : List AV) (kw : List (Str × AV)) (σ : Store) : RE AV := match f with
  | .fix (.ref a) => X.call a args kw σ
  | .fix (.builtin b) => match kw with
    | [] => builtinM b args σ
    | _ => .bad
  | .fix (.type b) => match kw with
    | [] => typeM b args σ
    | _ => .bad
  | _ => .bad

def celM (γ : List (Str × Nat)) (x : Str) (σ : Store) : Option AV := (γ.lookup x).bind fun n => match σ[n]? with
  | some (.cell v) => v
  | _ => none
def setCelM (γ : List (Str × Nat)) (x : Str) (v : AV) (σ : Store) : RE Unit := match γ.lookup x with
  | some n => match σ[n]? with
    | some (.cell _) => .ok () (σ.set n (.cell (some v)))
    | _ => .bad
  | none => .bad

inductive It where
  | lst (n : Nat)
  | tpl (n : Nat)
  | items (xs : List AV)
  | zip (n m : Nat)
  deriving Inhabited
inductive NX where
  | item (v : AV) (σ : Store)
  | stop
  | bad
def nextIt (it : It) (i : Nat) (σ : Store) : NX := match it with
  | .lst n => match σ[n]? with
    | some (.list xs) => match xs[i]? with
      | some v => .item v σ
      | none => .stop
    | _ => .bad
  | .tpl n => match σ[n]? with
    | some (.tup xs) => match xs[i]? with
      | some v => .item v σ
      | none => .stop
    | _ => .bad
  | .items xs => match xs[i]? with
    | some v => .item v σ
    | none => .stop
  | .zip n m => match σ[n]?, σ[m]? with
    | some (.list xs), some (.list ys) => match xs[i]?, ys[i]? with
      | some x, some y => .item (.obj σ.length) (σ ++ [.tup [x, y]])
      | _, _ => .stop
    | _, _ => .bad

def rangeUp (a b : Int) : List AV := (List.range (b - a).toNat).map fun (k : Nat) => .int (a + k)
def rangeDown (a b : Int) : List AV := (List.range (a - b).toNat).map fun (k : Nat) => .int (a - k)
def mid (i : Int) : Bool := decide (-100000 < i) && decide (i < 100000)
def rangeM : List AV → Option (List AV)
  | [.int b] => if mid b then some (rangeUp 0 b) else none
  | [.int a, .int b] => if mid a && mid b then some (rangeUp a b) else none
  | [.int a, .int b, .int (-1)] => if mid a && mid b then some (rangeDown a b) else none
  | _ => none

/-- the loop of a comprehension -/
def compLoop (nx : Nat → Store → NX) (turn : AV → Store → RE (Option AV)) : Nat → Nat → List AV → Store → RE (List AV)
  | 0, _, _, _ => .bad
  | w + 1, i, acc, σ => match nx i σ with
    | .bad => .bad
    | .stop => .ok acc σ
    | .item v σ => (turn v σ).bind fun r σ => compLoop nx turn w (i + 1) (match r with | some x => acc ++ [x] | none => acc) σ

def unpackM (v : AV) (σ : Store) : Option (List AV) := match v with
  | .obj n => match σ[n]? with
    | some (.tup xs) => some xs
    | _ => none
  | _ => none

def putLoc (x : Str) (v : AV) : Loc → Loc := putAttr x v
def CTs.len : CTs → Nat
  | .nil => 0
  | .cons _ r => r.len + 1




mutual
def evalE (X : IX) (γ : List (Str × Nat)) (ρ : Loc) : CE → Store → RE AV
  | .cst v, σ => .ok v σ
  | .loc x, σ => lift (ρ.lookup x) σ
  | .cel x, σ => lift (celM γ x σ) σ
  | .bop op es, σ => evalB X γ ρ op es σ
  | .not a, σ => (evalE X γ ρ a σ).bind fun v σ => (lift (truthy σ v) σ).bind fun b σ => .ok (.bool (!b)) σ
  | .neg a, σ => (evalE X γ ρ a σ).bind fun v σ => match v with
    | .int i => .ok (.int (-i)) σ
    | _ => .bad
  | .bin op a b, σ => (evalE X γ ρ a σ).bind fun v σ => (evalE X γ ρ b σ).bind fun w σ => binM op v w σ
  | .cmp a ops es, σ => (evalE X γ ρ a σ).bind fun v σ => evalC X γ ρ v ops es σ
  | .attr a x, σ => (evalE X γ ρ a σ).bind fun v σ => getAttrM X v x σ
  | .sub a i, σ => (evalE X γ ρ a σ).bind fun v σ => (evalE X γ ρ i σ).bind fun w σ => getItemM v w σ
  | .slc a lo hi st, σ => (evalE X γ ρ a σ).bind fun v σ => (evalE X γ ρ lo σ).bind fun l σ => (evalE X γ ρ hi σ).bind fun h σ => (evalE X γ ρ st σ).bind fun s σ => sliceM v l h s σ
  | .list es, σ => (evalL X γ ρ es σ).bind fun vs σ => allocL vs σ
  | .tup es, σ => (evalL X γ ρ es σ).bind fun vs σ => if vs.length < lim then alloc (.tup vs) σ else .bad
  | .dict ks vs, σ => match ks, vs with
    | .nil, .nil => alloc (.dict []) σ
    | .cons k .nil, .cons v .nil => (evalE X γ ρ k σ).bind fun k σ => (evalE X γ ρ v σ).bind fun v σ => match k with
      | .int k => alloc (.dict [(k, v)]) σ
      | _ => .bad
    | _, _ => .bad
  | .call f es kn kv, σ => (evalE X γ ρ f σ).bind fun f σ => (evalL X γ ρ es σ).bind fun vs σ => (evalL X γ ρ kv σ).bind fun ks σ => callM X f vs (kn.zip ks) σ
  | .meth o x es kn kv, σ => (evalE X γ ρ o σ).bind fun o σ => (lift (findM X o x σ) σ).bind fun f σ => (evalL X γ ρ es σ).bind fun vs σ => (evalL X γ ρ kv σ).bind fun ks σ => methM X f o x vs (kn.zip ks) σ
  | .comp elt t it ifs, σ => (evalI X γ ρ it σ).bind fun it σ =>
      (compLoop (nextIt it) (fun v σ => (assignT X γ [] t v σ).bind fun ρ' σ => (evalIfs X γ ρ' ifs σ).bind fun b σ => if b then (evalE X γ ρ' elt σ).bind fun v σ => .ok (some v) σ else .ok none σ) X.W 0 [] σ).bind fun vs σ => allocL vs σ
def evalL (X : IX) (γ : List (Str × Nat)) (ρ : Loc) : CL → Store → RE (List AV)
  | .nil, σ => .ok [] σ
  | .cons e r, σ => (evalE X γ ρ e σ).bind fun v σ => (evalL X γ ρ r σ).bind fun vs σ => .ok (v :: vs) σ
def evalB (X : IX) (γ : List (Str × Nat)) (ρ : Loc) (op : BoolOp) : CL → Store → RE AV
  | .nil, _ => .bad
  | .cons e .nil, σ => evalE X γ ρ e σ
  | .cons e (.cons e' r), σ => (evalE X γ ρ e σ).bind fun v σ => (lift (truthy σ v) σ).bind fun b σ => match op, b with
    | .And, false => .ok v σ
    | .Or, true => .ok v σ
    | _, _ => evalB X γ ρ op (.cons e' r) σ
def evalC (X : IX) (γ : List (Str × Nat)) (ρ : Loc) (v : AV) : List CmpOp → CL → Store → RE AV
  | [op], .cons e .nil, σ => (evalE X γ ρ e σ).bind fun w σ => cmpM X op v w σ
  | op :: ops, .cons e r, σ => (evalE X γ ρ e σ).bind fun w σ => (cmpM X op v w σ).bind fun c σ => (lift (truthy σ c) σ).bind fun b σ => if b then evalC X γ ρ w ops r σ else .ok c σ
  | _, _, _ => .bad
def evalIfs (X : IX) (γ : List (Str × Nat)) (ρ : Loc) : CL → Store → RE Bool
  | .nil, σ => .ok true σ
  | .cons e r, σ => (evalE X γ ρ e σ).bind fun v σ => (lift (truthy σ v) σ).bind fun b σ => if b then evalIfs X γ ρ r σ else .ok false σ
def evalI (X : IX) (γ : List (Str × Nat)) (ρ : Loc) : CI → Store → RE It
  | .obj e, σ => (evalE X γ ρ e σ).bind fun v σ => match v with
    | .obj n => match σ[n]? with
      | some (.list _) => .ok (.lst n) σ
      | some (.tup _) => .ok (.tpl n) σ
      | _ => .bad
    | _ => .bad
  | .range es, σ => (evalL X γ ρ es σ).bind fun vs σ => (lift (rangeM vs) σ).bind fun xs σ => .ok (.items xs) σ
  | .zip a b, σ => (evalE X γ ρ a σ).bind fun v σ => (evalE X γ ρ b σ).bind fun w σ => match v, w with
    | .obj n, .obj m => match σ[n]?, σ[m]? with
      | some (.list _), some (.list _) => .ok (.zip n m) σ
      | _, _ => .bad
    | _, _ => .bad
def assignT (X : IX) (γ : List (Str × Nat)) (ρ : Loc) : CT → AV → Store → RE Loc
  | .loc x, v, σ => .ok (putLoc x v ρ) σ
  | .cel x, v, σ => (setCelM γ x v σ).bind fun _ σ => .ok ρ σ
  | .attr a x, v, σ => (evalE X γ ρ a σ).bind fun o σ => (setAttrM X o x v σ).bind fun _ σ => .ok ρ σ
  | .sub a i, v, σ => (evalE X γ ρ a σ).bind fun o σ => (evalE X γ ρ i σ).bind fun i σ => (setItemM o i v σ).bind fun _ σ => .ok ρ σ
  | .tup ts, v, σ => match unpackM v σ with
    | some vs => if vs.length == ts.len then assignTs X γ ρ ts vs σ else .bad
    | none => .bad
def assignTs (X : IX) (γ : List (Str × Nat)) (ρ : Loc) : CTs → List AV → Store → RE Loc
  | .nil, [], σ => .ok ρ σ
  | .cons t r, v :: vs, σ => (assignT X γ ρ t v σ).bind fun ρ σ => assignTs X γ ρ r vs σ
  | _, _, _ => .bad
end
end Mini

end

section
set_option autoImplicit false
namespace Mini
open PySem

inductive RS where
  | nxt (ρ : Loc) (σ : Store)
  | brk (ρ : Loc) (σ : Store)
  | cont (ρ : Loc) (σ : Store)
  | ret (v : AV) (ρ : Loc) (σ : Store)
  | exc (k : EK) (ρ : Loc) (σ : Store)
  | bad
  deriving Inhabited

def RE.then {α : Type} (r : RE α) (ρ : Loc) (f : α → Store → RS) : RS := match r with
  | .ok a σ => f a σ
  | .exc k σ => .exc k ρ σ
  | .bad => .bad
def RS.then (r : RS) (f : Loc → Store → RS) : RS := match r with
  | .nxt ρ σ => f ρ σ
  | r => r

def catches (x : AV) (k : EK) : Option Bool := match k, x with
  | .idx, .fix (.type t) => some (t == "IndexError")
  | .key, .fix (.type t) => some (t == "KeyError")
  | .own C, .fix (.ref D) => some (C == D)
  | _, _ => none

def loopW (t : Loc → Store → RE Bool) (b : Loc → Store → RS) : Nat → Loc → Store → RS
  | 0, _, _ => .bad
  | w + 1, ρ, σ => (t ρ σ).then ρ fun c σ => if c then (match b ρ σ with
      | .nxt ρ σ => loopW t b w ρ σ
      | .cont ρ σ => loopW t b w ρ σ
      | .brk ρ σ => .nxt ρ σ
      | r => r) else .nxt ρ σ
def loopF (nx : Nat → Store → NX) (asg : AV → Loc → Store → RE Loc) (b : Loc → Store → RS) : Nat → Nat → Loc → Store → RS
  | 0, _, _, _ => .bad
  | w + 1, i, ρ, σ => match nx i σ with
    | .bad => .bad
    | .stop => .nxt ρ σ
    | .item v σ => (asg v ρ σ).then ρ fun ρ σ => (match b ρ σ with
      | .nxt ρ σ => loopF nx asg b w (i + 1) ρ σ
      | .cont ρ σ => loopF nx asg b w (i + 1) ρ σ
      | .brk ρ σ => .nxt ρ σ
      | r => r)

def evalT (X : IX) (γ : List (Str × Nat)) (ρ : Loc) (c : CE) (σ : Store) : RE Bool := (evalE X γ ρ c σ).bind fun v σ => lift (truthy σ v) σ

def finish (f : Loc → Store → RS) (r : RS) : RS := match r with
  | .nxt ρ σ => f ρ σ
  | .brk ρ σ => match f ρ σ with | .nxt ρ σ => .brk ρ σ | _ => .bad
  | .cont ρ σ => match f ρ σ with | .nxt ρ σ => .cont ρ σ | _ => .bad
  | .ret v ρ σ => match f ρ σ with | .nxt ρ σ => .ret v ρ σ | _ => .bad
  | .exc _ _ _ => .bad
  | .bad => .bad

def plainV (op : Operator) : AV → AV → Bool
  | .int _, .int _ => op == .Add || op == .Sub
  | .str _, .str _ => op == .Add
  | _, _ => false
def augM (X : IX) (γ : List (Str × Nat)) (op : Operator) (t : CT) (e : CE) (ρ : Loc) (σ : Store) : RS := match t with
  | .loc x => (lift (ρ.lookup x) σ).then ρ fun old σ => (evalE X γ ρ e σ).then ρ fun v σ => if plainV op old v then (binM op old v σ).then ρ fun new σ => .nxt (putLoc x new ρ) σ else .bad
  | .sub a i => (evalE X γ ρ a σ).then ρ fun o σ => (evalE X γ ρ i σ).then ρ fun i σ => (getItemM o i σ).then ρ fun old σ => (evalE X γ ρ e σ).then ρ fun v σ => if plainV op old v then (binM op old v σ).then ρ fun new σ =>
      (setItemM o i new σ).then ρ fun _ σ => .nxt ρ σ else .bad
  | _ => .bad

mutual
def exec (X : IX) (γ : List (Str × Nat)) : CS → Loc → Store → RS
  | .expr e, ρ, σ => (evalE X γ ρ e σ).then ρ fun _ σ => .nxt ρ σ
  | .pass, ρ, σ => .nxt ρ σ
  | .brk, ρ, σ => .brk ρ σ
  | .cont, ρ, σ => .cont ρ σ
  | .ret e, ρ, σ => (evalE X γ ρ e σ).then ρ fun v σ => .ret v ρ σ
  | .asg ts e, ρ, σ => match ts with
    | .cons t .nil => (evalE X γ ρ e σ).then ρ fun v σ => (assignT X γ ρ t v σ).then ρ fun ρ σ => .nxt ρ σ
    | _ => .bad
  | .aug t op e, ρ, σ => augM X γ op t e ρ σ
  | .ite c a b, ρ, σ => (evalT X γ ρ c σ).then ρ fun v σ => if v then execs X γ a ρ σ else execs X γ b ρ σ
  | .whil c b, ρ, σ => loopW (fun ρ σ => evalT X γ ρ c σ) (fun ρ σ => execs X γ b ρ σ) X.W ρ σ
  | .forr t it b, ρ, σ => (evalI X γ ρ it σ).then ρ fun it σ => loopF (nextIt it) (fun v ρ σ => assignT X γ ρ t v σ) (fun ρ σ => execs X γ b ρ σ) X.W 0 ρ σ
  | .tryE b _ _, ρ, σ => match execs X γ b ρ σ with
    | .exc _ _ _ => .bad
    | r => r
  | .tryF b f, ρ, σ => finish (fun ρ σ => execs X γ f ρ σ) (execs X γ b ρ σ)
  | .asrt c, ρ, σ => (evalT X γ ρ c σ).then ρ fun v σ => if v then .nxt ρ σ else .bad
  | .raise C, ρ, σ => match C with
    | .cst (.fix (.ref C)) => .exc (.own C) ρ σ
    | _ => .bad
def execs (X : IX) (γ : List (Str × Nat)) : CB → Loc → Store → RS
  | .nil, ρ, σ => .nxt ρ σ
  | .cons s r, ρ, σ => (exec X γ s ρ σ).then fun ρ σ => execs X γ r ρ σ
end

structure FnI where
  params : List Str
  defs : List AV
  names : List (Str × NameKind)
  body : CB
  deriving Inhabited

def cellNames (l : List (Str × NameKind)) : List Str := (l.filter fun p => p.2 == .cell).map (·.1)

/-- the binds of a call: by place, by name, by default -/
def kwFold {α : Type} (params : List Str) : List (Str × α) → List (Str × α) → Option (List (Str × α))
  | [], slots => some slots
  | (k, v) :: r, slots => if params.contains k then (if (slots.lookup k).isSome then none else kwFold params r (slots ++ [(k, v)])) else none
def defFold {α : Type} : List (Str × α) → List (Str × α) → List (Str × α)
  | [], slots => slots
  | (k, v) :: r, slots => defFold r (if (slots.lookup k).isNone then slots ++ [(k, v)] else slots)
def bindG {α : Type} (params : List Str) (defs : List α) (args : List α) (kw : List (Str × α)) : Option (List (Str × α)) :=
  (kwFold params kw (params.zip args)).bind fun slots =>
    if args.length > params.length then none
    else if defs.length > params.length then none
    else if ((params.take (params.length - defs.length)).filter fun n => (slots.lookup n).isNone).isEmpty then
      some (params.filterMap fun n => ((defFold ((params.drop (params.length - defs.length)).zip defs) slots).lookup n).map (n, ·))
    else none
def bindA (params : List Str) (defs : List AV) (args : List AV) (kw : List (Str × AV)) : Option (List (Str × AV)) := bindG params defs args kw

def enterM (fi : FnI) (binds : List (Str × AV)) (σ : Store) : List (Str × Nat) × Loc × Store :=
  let cs := cellNames fi.names
  (cs.zip ((List.range cs.length).map (· + σ.length)), binds.filter (fun p => !cs.contains p.1), σ ++ cs.map fun x => .cell (binds.lookup x))

def leaveM (r : RS) : RE AV := match r with
  | .nxt _ σ => .ok .none σ
  | .ret v _ σ => .ok v σ
  | .exc k _ σ => .exc k σ
  | _ => .bad

structure Prg where
  fn : Addr → Option FnI
  cls : Addr → Option ClsI
  W : Nat

def runF (P : Prg) : Nat → Addr → List AV → List (Str × AV) → Store → RE AV
  | 0, _, _, _, _ => .bad
  | n + 1, a, args, kw, σ => match P.fn a with
    | some fi => match bindA fi.params fi.defs args kw with
      | some binds => let e := enterM fi binds σ; leaveM (execs ⟨runF P n, P.cls, P.W⟩ e.1 fi.body e.2.1 e.2.2)
      | none => .bad
    | none => match P.cls a with
      | some ci => (runF P n ci.init (.obj (σ.length + 1) :: args) kw (σ ++ [.attrs [], .inst a σ.length])).bind fun r τ => match r with
        | .none => .ok (.obj (σ.length + 1)) τ
        | _ => .bad
      | none => .bad

end Mini

end

section
set_option autoImplicit false
namespace Mini
open PySem PySem.W PySem.Calls PyProof.Rows

/-! ## values and objects -/
def VR (μ : List Addr) : AV → Value → Prop
  | .none, v => v = .none
  | .bool b, v => v = .bool b
  | .int i, v => ∃ t, v = .int i t
  | .str s, v => ∃ t, v = .str s t
  | .obj n, v => ∃ a, μ[n]? = some a ∧ v = .ref a
  | .fix w, v => v = w

inductive All2 {α β : Type} (R : α → β → Prop) : List α → List β → Prop
  | nil : All2 R [] []
  | cons {a b l m} : R a b → All2 R l m → All2 R (a :: l) (b :: m)

section
variable {α β : Type} {R S : α → β → Prop}
theorem All2.imp (h : ∀ a b, R a b → S a b) {l : List α} {m : List β} (x : All2 R l m) : All2 S l m := by
  induction x with
  | nil => exact .nil
  | cons r _ ih => exact .cons (h _ _ r) ih
theorem All2.length {l : List α} {m : List β} (x : All2 R l m) : l.length = m.length := by
  induction x with
  | nil => rfl
  | cons _ _ ih => simp [ih]
theorem All2.append {l l' : List α} {m m' : List β} (x : All2 R l m) (y : All2 R l' m') : All2 R (l ++ l') (m ++ m') := by
  induction x with
  | nil => exact y
  | cons r _ ih => exact .cons r ih
theorem All2.get {l : List α} {m : List β} (x : All2 R l m) {i : Nat} {a : α} (h : l[i]? = some a) : ∃ b, m[i]? = some b ∧ R a b := by
  induction x generalizing i with
  | nil => simp at h
  | cons r _ ih =>
    cases i with
    | zero => simp only [List.getElem?_cons_zero, Option.some.injEq] at h; subst h; exact ⟨_, rfl, r⟩
    | succ i => simp only [List.getElem?_cons_succ] at h ⊢; exact ih h
theorem All2.take {l : List α} {m : List β} (x : All2 R l m) (n : Nat) : All2 R (l.take n) (m.take n) := by
  induction x generalizing n with
  | nil => simp; exact .nil
  | cons r _ ih => cases n with
    | zero => exact .nil
    | succ n => exact .cons r (ih n)
theorem All2.drop {l : List α} {m : List β} (x : All2 R l m) (n : Nat) : All2 R (l.drop n) (m.drop n) := by
  induction x generalizing n with
  | nil => simp; exact .nil
  | cons r x ih => cases n with
    | zero => exact .cons r x
    | succ n => exact ih n
theorem All2.eraseIdx {l : List α} {m : List β} (x : All2 R l m) (n : Nat) : All2 R (l.eraseIdx n) (m.eraseIdx n) := by
  induction x generalizing n with
  | nil => simp; exact .nil
  | cons r x ih => cases n with
    | zero => exact x
    | succ n => exact .cons r (ih n)
theorem All2.set {l : List α} {m : List β} (x : All2 R l m) (n : Nat) {a : α} {b : β} (h : R a b) : All2 R (l.set n a) (m.set n b) := by
  induction x generalizing n with
  | nil => simp; exact .nil
  | cons r x ih => cases n with
    | zero => exact .cons h x
    | succ n => exact .cons r (ih n)
theorem All2.reverse {l : List α} {m : List β} (x : All2 R l m) : All2 R l.reverse m.reverse := by
  induction x with
  | nil => exact .nil
  | cons r _ ih => simp only [List.reverse_cons]; exact ih.append (.cons r .nil)
theorem All2.replicate {a : α} {b : β} (h : R a b) (n : Nat) : All2 R (List.replicate n a) (List.replicate n b) := by
  induction n with
  | zero => exact .nil
  | succ n ih => exact .cons h ih
end

abbrev VRs (μ : List Addr) := All2 (VR μ)

def Pre {α : Type} (l m : List α) : Prop := ∃ r, m = l ++ r
theorem Pre.refl {α : Type} (l : List α) : Pre l l := ⟨[], by simp⟩
theorem Pre.trans {α : Type} {l m n : List α} (a : Pre l m) (b : Pre m n) : Pre l n := by
  obtain ⟨r, rfl⟩ := a; obtain ⟨t, rfl⟩ := b; exact ⟨r ++ t, by simp⟩
theorem Pre.get {α : Type} {l m : List α} (a : Pre l m) {i : Nat} {x : α} (h : l[i]? = some x) : m[i]? = some x := by
  obtain ⟨r, rfl⟩ := a
  obtain ⟨hi, rfl⟩ := List.getElem?_eq_some_iff.mp h
  rw [List.getElem?_append_left hi]; simp [hi]
theorem Pre.add {α : Type} (l r : List α) : Pre l (l ++ r) := ⟨r, rfl⟩

theorem VR.mono {μ μ' : List Addr} (p : Pre μ μ') {v : AV} {cv : Value} (h : VR μ v cv) : VR μ' v cv := by
  cases v <;> try exact h
  obtain ⟨a, ha, rfl⟩ := h
  exact ⟨a, p.get ha, rfl⟩
theorem VRs.mono {μ μ' : List Addr} (p : Pre μ μ') {v : List AV} {cv : List Value} (h : VRs μ v cv) : VRs μ' v cv := h.imp fun _ _ => VR.mono p

def KV (μ : List Addr) (p : Str × AV) (e : DictEntry) : Prop := e.key.isStr p.1 = true ∧ VR μ p.2 e.val
def EV (μ : List Addr) (p : Int × AV) (e : DictEntry) : Prop := (∃ t, e.key = .int p.1 t ∧ e.hash = hashInt p.1) ∧ VR μ p.2 e.val

def OR (μ : List Addr) : AO → Obj → Prop
  | .list xs, o => xs.length ≤ lim ∧ ∃ vs k, o = { cls := .type "list", data := .seq vs k } ∧ VRs μ xs vs.toList
  | .tup xs, o => xs.length ≤ lim ∧ ∃ vs k, o = { cls := .type "tuple", data := .seq vs k } ∧ VRs μ xs vs.toList
  | .dict es, o => (es.length ≤ lim ∧ (es.map (·.1)).Nodup) ∧ ∃ ds k, o = dictOf ds k ∧ All2 (EV μ) es ds
  | .tdict _, _ => False
  | .inst C d, o => ∃ dx, o = instObj C dx ∧ μ[d]? = some dx
  | .attrs fs, o => ∃ ds k, o = dictOf ds k ∧ All2 (KV μ) fs ds
  | .rol xs o', o => o = o' ∧ xs.length ≤ lim ∧ ∃ vs k, o.cls = .type "list" ∧ o.data = .seq vs k ∧ VRs μ xs vs.toList
  | .cell v, o => ∃ cv, o.data = .cell cv ∧ (match v, cv with | some v, some cv => VR μ v cv | none, none => True | _, _ => False)

theorem KV.mono {μ μ' : List Addr} (p : Pre μ μ') {a : Str × AV} {e : DictEntry} (h : KV μ a e) : KV μ' a e := ⟨h.1, h.2.mono p⟩
theorem EV.mono {μ μ' : List Addr} (p : Pre μ μ') {a : Int × AV} {e : DictEntry} (h : EV μ a e) : EV μ' a e := ⟨h.1, h.2.mono p⟩
theorem OR.mono {μ μ' : List Addr} (p : Pre μ μ') {o : AO} {ob : Obj} (h : OR μ o ob) : OR μ' o ob := by
  cases o with
  | list xs => obtain ⟨z, vs, k, e, a⟩ := h; exact ⟨z, vs, k, e, a.mono p⟩
  | tup xs => obtain ⟨z, vs, k, e, a⟩ := h; exact ⟨z, vs, k, e, a.mono p⟩
  | dict es => obtain ⟨z, ds, k, e, a⟩ := h; exact ⟨z, ds, k, e, a.imp fun _ _ => EV.mono p⟩
  | tdict es => exact h.elim
  | rol xs o => obtain ⟨e, z, vs, k, c, d, a⟩ := h; exact ⟨e, z, vs, k, c, d, a.mono p⟩
  | inst C d => obtain ⟨dx, e, a⟩ := h; exact ⟨dx, e, p.get a⟩
  | attrs fs => obtain ⟨ds, k, e, a⟩ := h; exact ⟨ds, k, e, a.imp fun _ _ => KV.mono p⟩
  | cell v =>
    obtain ⟨cv, e, a⟩ := h
    refine ⟨cv, e, ?_⟩
    cases v <;> cases cv <;> first | exact a.elim | exact trivial | exact a.mono p

structure Cx where
  prog : Program
  w : World
  base : Heap
  K : Frag
  P : Prg
  big : 1 < base.objs.size

/-- the state: the frame at hand, what stands aside (ex: very objects, fs: the callers' frames), the own objects -/
structure SR (Z : Cx) (ex : List (Addr × Obj)) (fs : List (Addr × Data)) (L : Addr) (m : Str → Option Value) (μ : List Addr) (σ : Store) (h : Heap) : Prop where
  fr : Fr Z.base L h m
  ex : ∀ p ∈ ex, h.get? p.1 = some p.2 ∧ p.1 ≠ L ∧ Z.base.get? p.1 = none ∧ p.1 ∉ μ
  fs : ∀ p ∈ fs, (∃ o, h.get? p.1 = some o ∧ o.data = p.2) ∧ p.1 ≠ L ∧ Z.base.get? p.1 = none ∧ p.1 ∉ μ
  len : μ.length = σ.length
  nodup : μ.Nodup
  own : ∀ a ∈ μ, a ≠ L ∧ Z.base.get? a = none ∧ 1 < a
  obj : ∀ (n : Nat) (o : AO) (a : Addr), σ[n]? = some o → μ[n]? = some a → ∃ ob, h.get? a = some ob ∧ OR μ o ob

section
variable {Z : Cx} {ex : List (Addr × Obj)} {fs : List (Addr × Data)} {L : Addr} {m : Str → Option Value} {μ : List Addr} {σ : Store} {h h' : Heap}

theorem SR.at (S : SR Z ex fs L m μ σ h) {n : Nat} {o : AO} (e : σ[n]? = some o) : ∃ a ob, μ[n]? = some a ∧ h.get? a = some ob ∧ OR μ o ob := by
  obtain ⟨hi, _⟩ := List.getElem?_eq_some_iff.mp e
  have hm : n < μ.length := S.len ▸ hi
  obtain ⟨ob, a, b⟩ := S.obj n o μ[n] e (by simp [hm])
  exact ⟨μ[n], ob, by simp [hm], a, b⟩
theorem SR.at' (S : SR Z ex fs L m μ σ h) {n : Nat} {o : AO} {a : Addr} (e : σ[n]? = some o) (ha : μ[n]? = some a) : ∃ ob, h.get? a = some ob ∧ OR μ o ob := S.obj n o a e ha

theorem SR.keeps (S : SR Z ex fs L m μ σ h) (k : ∀ b o, h.get? b = some o → h'.get? b = some o) : SR Z ex fs L m μ σ h' where
  fr := S.fr.keeps k
  ex := fun p hp => ⟨k _ _ (S.ex p hp).1, (S.ex p hp).2⟩
  fs := fun p hp => ⟨let ⟨o, a, b⟩ := (S.fs p hp).1; ⟨o, k _ _ a, b⟩, (S.fs p hp).2⟩
  len := S.len
  nodup := S.nodup
  own := S.own
  obj := fun n o a e ha => let ⟨ob, x, y⟩ := S.obj n o a e ha; ⟨ob, k _ _ x, y⟩

theorem SR.push (S : SR Z ex fs L m μ σ h) (o : Obj) : SR Z ex fs L m μ σ (h.push o) := S.keeps fun _ _ e => Heap.get?_push_of_some o e

theorem SR.lt (S : SR Z ex fs L m μ σ h) {a : Addr} (ha : a ∈ μ) : a < h.objs.size := by
  obtain ⟨n, hn, rfl⟩ := List.getElem_of_mem ha
  have hn' : n < σ.length := S.len ▸ hn
  obtain ⟨ob, x, _⟩ := S.obj n σ[n] μ[n] (by simp [hn']) (by simp [hn])
  exact Heap.lt_size x
theorem SR.baseLe (S : SR Z ex fs L m μ σ h) {a : Addr} {o : Obj} (e : Z.base.get? a = some o) : a < h.objs.size := Heap.lt_size (S.fr.keep a o e)

theorem SR.gt1 (S : SR Z ex fs L m μ σ h) : 1 < h.objs.size := Nat.lt_of_lt_of_le (Nat.lt_of_lt_of_le Z.big S.fr.above) (Nat.le_of_lt S.fr.ns.lt)

theorem SR.alloc (S : SR Z ex fs L m μ σ h) {o : AO} {ob : Obj} (hf : ob.isFreed = false) (r : OR (μ ++ [h.objs.size]) o ob) :
    SR Z ex fs L m (μ ++ [h.objs.size]) (σ ++ [o]) (h.push ob) where
  fr := S.fr.push ob
  ex := fun p hp => by
    obtain ⟨a, b, c, d⟩ := S.ex p hp
    refine ⟨Heap.get?_push_of_some _ a, b, c, fun q => ?_⟩
    rcases List.mem_append.mp q with q | q
    · exact d q
    · have := List.mem_singleton.mp q
      exact absurd (Heap.lt_size a) (by rw [this]; exact Nat.lt_irrefl _)
  fs := fun p hp => by
    obtain ⟨⟨o', a, a'⟩, b, c, d⟩ := S.fs p hp
    refine ⟨⟨o', Heap.get?_push_of_some _ a, a'⟩, b, c, fun q => ?_⟩
    rcases List.mem_append.mp q with q | q
    · exact d q
    · have := List.mem_singleton.mp q
      exact absurd (Heap.lt_size a) (by rw [this]; exact Nat.lt_irrefl _)
  len := by simp [S.len]
  nodup := by
    rw [List.nodup_append]
    refine ⟨S.nodup, by simp, fun a ha b hb => ?_⟩
    have := List.mem_singleton.mp hb
    have lt := S.lt ha
    rw [this]; exact Nat.ne_of_lt lt
  own := fun a ha => by
    rcases List.mem_append.mp ha with q | q
    · exact S.own a q
    · have e := List.mem_singleton.mp q
      refine ⟨by rw [e]; exact Nat.ne_of_gt S.fr.ns.lt, ?_, by rw [e]; exact S.gt1⟩
      cases hq : Z.base.get? a with
      | none => rfl
      | some o' => exact absurd (S.baseLe hq) (by rw [e]; exact Nat.lt_irrefl _)
  obj := fun n o' a e ha => by
    by_cases hn : n < σ.length
    · rw [List.getElem?_append_left hn] at e
      rw [List.getElem?_append_left (by rw [S.len]; exact hn)] at ha
      obtain ⟨ob', x, y⟩ := S.obj n o' a e ha
      exact ⟨ob', Heap.get?_push_of_some _ x, y.mono (Pre.add _ _)⟩
    · have hn' : σ.length ≤ n := Nat.le_of_not_lt hn
      rw [List.getElem?_append_right hn'] at e
      rw [List.getElem?_append_right (by rw [S.len]; exact hn')] at ha
      rw [S.len] at ha
      have h0 : n - σ.length = 0 := by
        cases q : n - σ.length with
        | zero => rfl
        | succ k => rw [q] at e; simp at e
      rw [h0] at e ha
      simp only [List.getElem?_cons_zero, Option.some.injEq] at e ha
      subst e; subst ha
      exact ⟨ob, Heap.get?_push_size _ hf, r⟩

theorem SR.inj (S : SR Z ex fs L m μ σ h) {i j : Nat} {a : Addr} (hi : μ[i]? = some a) (hj : μ[j]? = some a) : i = j := by
  obtain ⟨h1, e1⟩ := List.getElem?_eq_some_iff.mp hi
  obtain ⟨h2, e2⟩ := List.getElem?_eq_some_iff.mp hj
  rcases Nat.lt_trichotomy i j with q | q | q
  · exact absurd (e1.trans e2.symm) (List.pairwise_iff_getElem.mp S.nodup i j h1 h2 q)
  · exact q
  · exact absurd (e2.trans e1.symm) (List.pairwise_iff_getElem.mp S.nodup j i h2 h1 q)
theorem mem_of_at {i : Nat} {a : Addr} (hi : μ[i]? = some a) : a ∈ μ := List.mem_of_getElem? hi

theorem SR.update (S : SR Z ex fs L m μ σ h) {n : Nat} {a : Addr} {o' : AO} {ob' : Obj} (ha : μ[n]? = some a) (hs : Heap.SameBut a h h') (hg : h'.get? a = some ob') (r : OR μ o' ob') :
    SR Z ex fs L m μ (σ.set n o') h' where
  fr := S.fr.change hs (S.own a (mem_of_at ha)).1 (S.own a (mem_of_at ha)).2.1
  ex := fun p hp => by
    obtain ⟨x, b, c, d⟩ := S.ex p hp
    exact ⟨(hs.2 p.1 fun (q : p.1 = a) => d (by rw [q]; exact mem_of_at ha)).trans x, b, c, d⟩
  fs := fun p hp => by
    obtain ⟨⟨o', x, x'⟩, b, c, d⟩ := S.fs p hp
    exact ⟨⟨o', (hs.2 p.1 fun (q : p.1 = a) => d (by rw [q]; exact mem_of_at ha)).trans x, x'⟩, b, c, d⟩
  len := by simp [S.len]
  nodup := S.nodup
  own := S.own
  obj := fun k o b e hb => by
    rw [List.getElem?_set] at e
    by_cases hk : n = k
    · subst hk
      have : b = a := Option.some.inj (hb.symm.trans ha)
      subst this
      split at e
      · split at e
        · cases e; exact ⟨ob', hg, r⟩
        · cases e
      · rename_i q; exact absurd rfl q
    · rw [if_neg hk] at e
      obtain ⟨ob, x, y⟩ := S.obj k o b e hb
      exact ⟨ob, (hs.2 _ fun q => hk (S.inj ha (q ▸ hb))).trans x, y⟩

theorem SR.frame {m' : Str → Option Value} (S : SR Z ex fs L m μ σ h) (hn : h'.Ns L m') (hs : Heap.SameBut L h h') : SR Z ex fs L m' μ σ h' where
  fr := S.fr.set hn hs
  ex := fun p hp => let ⟨x, b, c, d⟩ := S.ex p hp; ⟨(hs.2 _ b).trans x, b, c, d⟩
  fs := fun p hp => let ⟨⟨o, x, x'⟩, b, c, d⟩ := S.fs p hp; ⟨⟨o, (hs.2 _ b).trans x, x'⟩, b, c, d⟩
  len := S.len
  nodup := S.nodup
  own := S.own
  obj := fun k o b e hb => let ⟨ob, x, y⟩ := S.obj k o b e hb; ⟨ob, (hs.2 _ (S.own b (mem_of_at hb)).1).trans x, y⟩

/-- a new object that stands aside -/
theorem SR.aside (S : SR Z ex fs L m μ σ h) {o : Obj} (hf : o.isFreed = false) : SR Z ((h.objs.size, o) :: ex) fs L m μ σ (h.push o) where
  fr := S.fr.push o
  ex := fun p hp => by
    rcases List.mem_cons.mp hp with rfl | hp
    · refine ⟨Heap.get?_push_size _ hf, Nat.ne_of_gt S.fr.ns.lt, ?_, fun q => Nat.lt_irrefl _ (S.lt q)⟩
      cases hq : Z.base.get? h.objs.size with
      | none => rfl
      | some o' => exact absurd (S.baseLe hq) (Nat.lt_irrefl _)
    · obtain ⟨x, b, c, d⟩ := S.ex p hp
      exact ⟨Heap.get?_push_of_some _ x, b, c, d⟩
  fs := fun p hp => let ⟨⟨o, x, x'⟩, b, c, d⟩ := S.fs p hp; ⟨⟨o, Heap.get?_push_of_some _ x, x'⟩, b, c, d⟩
  len := S.len
  nodup := S.nodup
  own := S.own
  obj := fun k o b e hb => let ⟨ob, x, y⟩ := S.obj k o b e hb; ⟨ob, Heap.get?_push_of_some _ x, y⟩

theorem SR.less {p : Addr × Obj} (S : SR Z (p :: ex) fs L m μ σ h) : SR Z ex fs L m μ σ h := { S with ex := fun q hq => S.ex q (.tail _ hq) }

/-- what stands aside is turned -/
theorem SR.turnX {I : Addr} {o o' : Obj} (S : SR Z ((I, o) :: ex) fs L m μ σ h) (hx : ∀ p ∈ ex, p.1 ≠ I) (hfx : ∀ p ∈ fs, p.1 ≠ I) (hs : Heap.SameBut I h h') (hg : h'.get? I = some o') : SR Z ((I, o') :: ex) fs L m μ σ h' := by
  obtain ⟨_, b, c, d⟩ := S.ex (I, o) (.head _)
  exact {
    fr := S.fr.change hs b c
    ex := fun p hp => by
      rcases List.mem_cons.mp hp with rfl | hp
      · exact ⟨hg, b, c, d⟩
      · obtain ⟨x, b', c', d'⟩ := S.ex p (.tail _ hp)
        exact ⟨(hs.2 _ (hx p hp)).trans x, b', c', d'⟩
    fs := fun p hp => by
      obtain ⟨⟨o, x, x'⟩, b', c', d'⟩ := S.fs p hp
      exact ⟨⟨o, (hs.2 _ (hfx p hp)).trans x, x'⟩, b', c', d'⟩
    len := S.len
    nodup := S.nodup
    own := S.own
    obj := fun k o b' e hb => by
      obtain ⟨ob, x, y⟩ := S.obj k o b' e hb
      exact ⟨ob, (hs.2 _ fun q => d (q ▸ mem_of_at hb)).trans x, y⟩ }
end

def FRel (μ : List Addr) (ρ : Loc) (m : Str → Option Value) : Prop := ∀ x v, ρ.lookup x = some v → ∃ cv, m x = some cv ∧ VR μ v cv
theorem FRel.mono {μ μ' : List Addr} {ρ : Loc} {m : Str → Option Value} (h : FRel μ ρ m) (p : Pre μ μ') : FRel μ' ρ m := fun x v e => let ⟨cv, a, b⟩ := h x v e; ⟨cv, a, b.mono p⟩
def GRel (μ : List Addr) (γ : List (Str × Nat)) (cl : List (Str × Addr)) : Prop := ∀ x n a, γ.lookup x = some n → cl.lookup x = some a → μ[n]? = some a
theorem GRel.mono {μ μ' : List Addr} {γ : List (Str × Nat)} {cl : List (Str × Addr)} (h : GRel μ γ cl) (p : Pre μ μ') : GRel μ' γ cl := fun x n a e e' => p.get (h x n a e e')
end Mini

end

section
set_option autoImplicit false
namespace Mini
open PySem PySem.W PySem.Calls PyProof.Rows

/-! ## what a tree hands on -/
@[irreducible] def ExcPost (_Z : Cx) (_ex : List (Addr × Obj)) (_fs : List (Addr × Data)) (_L : Addr) (_m : Str → Option Value) (_μ : List Addr) (_s : Shared) (_E : Value → Shared → Prop) (_k : EK) (_σ : Store) : Prop := False

def Post (Z : Cx) (ex : List (Addr × Obj)) (fs : List (Addr × Data)) (L : Addr) (m : Str → Option Value) {α β : Type} (R : List Addr → α → β → Prop) (μ : List Addr) (s : Shared)
    (Q : β → Shared → Prop) (E : Value → Shared → Prop) : RE α → Prop
  | .ok v σ' => ∀ μ' b h' tk, Pre μ μ' → SR Z ex fs L m μ' σ' h' → R μ' v b → Q b { s with heap := h', toks := tk }
  | .exc k σ' => ExcPost Z ex fs L m μ s E k σ'
  | .bad => False

section
variable {Z : Cx} {ex : List (Addr × Obj)} {fs : List (Addr × Data)} {L : Addr} {m : Str → Option Value} {μ : List Addr} {s : Shared} {E : Value → Shared → Prop}
theorem ExcPost.up {μ' : List Addr} {h' : Heap} {tk : Nat} {k : EK} {σ : Store} (_p : Pre μ μ') (h : ExcPost Z ex fs L m μ s E k σ) : ExcPost Z ex fs L m μ' { s with heap := h', toks := tk } E k σ := by unfold ExcPost at h; exact h.elim
theorem ExcPost.down {μ' : List Addr} {h' : Heap} {tk : Nat} {k : EK} {σ : Store} (_p : Pre μ μ') (h : ExcPost Z ex fs L m μ' { s with heap := h', toks := tk } E k σ) : ExcPost Z ex fs L m μ s E k σ := by unfold ExcPost at h; exact h.elim

theorem Post.up {α β : Type} {R : List Addr → α → β → Prop} {Q : β → Shared → Prop} {r : RE α} {μ' : List Addr} {h' : Heap} {tk : Nat} (p : Pre μ μ') (h : Post Z ex fs L m R μ s Q E r) :
    Post Z ex fs L m R μ' { s with heap := h', toks := tk } Q E r := by
  cases r with
  | ok v σ' => exact fun μ'' b h'' tk' p' S r' => h μ'' b h'' tk' (p.trans p') S r'
  | exc k σ' => exact ExcPost.up p h
  | bad => exact h

/-- a step and what comes behind it -/
theorem Post.bind {α α' β β' : Type} {R : List Addr → α → β → Prop} {R' : List Addr → α' → β' → Prop} {Q : β' → Shared → Prop} {Q' : β → Shared → Prop} {r : RE α} {f : α → Store → RE α'}
    (hp : Post Z ex fs L m R' μ s Q E (r.bind f))
    (k : ∀ v σ' μ' b h' tk, r = .ok v σ' → Pre μ μ' → SR Z ex fs L m μ' σ' h' → R μ' v b → Post Z ex fs L m R' μ' { s with heap := h', toks := tk } Q E (f v σ') → Q' b { s with heap := h', toks := tk }) :
    Post Z ex fs L m R μ s Q' E r := by
  cases r with
  | ok v σ' => exact fun μ' b h' tk p S x => k v σ' μ' b h' tk rfl p S x (Post.up p hp)
  | exc k' σ' => exact hp
  | bad => exact hp

theorem Post.lift {α α' β' : Type} {R' : List Addr → α' → β' → Prop} {Q : β' → Shared → Prop} {o : Option α} {σ : Store} {f : α → Store → RE α'} (hp : Post Z ex fs L m R' μ s Q E ((Mini.lift o σ).bind f)) :
    ∃ a, o = some a ∧ Post Z ex fs L m R' μ s Q E (f a σ) := by
  cases o with
  | none => exact hp.elim
  | some a => exact ⟨a, rfl, hp⟩
theorem Post.ok {α β : Type} {R : List Addr → α → β → Prop} {Q : β → Shared → Prop} {v : α} {σ : Store} {b : β} {h' : Heap} {tk : Nat} (hp : Post Z ex fs L m R μ s Q E (.ok v σ)) (S : SR Z ex fs L m μ σ h') (r : R μ v b) :
    Q b { s with heap := h', toks := tk } := hp μ b h' tk (Pre.refl μ) S r
theorem Post.ok' {α β : Type} {R : List Addr → α → β → Prop} {Q : β → Shared → Prop} {v : α} {σ : Store} {b : β} {tk : Nat} (hp : Post Z ex fs L m R μ s Q E (.ok v σ)) (S : SR Z ex fs L m μ σ s.heap) (r : R μ v b) :
    Q b { s with toks := tk } := hp μ b s.heap tk (Pre.refl μ) S r
theorem Post.ok0 {α β : Type} {R : List Addr → α → β → Prop} {Q : β → Shared → Prop} {v : α} {σ : Store} {b : β} (hp : Post Z ex fs L m R μ s Q E (.ok v σ)) (S : SR Z ex fs L m μ σ s.heap) (r : R μ v b) :
    Q b s := hp μ b s.heap s.toks (Pre.refl μ) S r
end

/-! ## the ledger of a state, for the library's rules -/
section
variable {Z : Cx} {ex : List (Addr × Obj)} {fs : List (Addr × Data)} {L : Addr} {m : Str → Option Value} {μ : List Addr} {σ : Store} {h h' : Heap}
def snap (h : Heap) (l : List Addr) : List (Addr × Obj) := l.map fun a => (a, (h.get? a).getD default)
def ledger (ex : List (Addr × Obj)) (fs : List (Addr × Data)) (μ : List Addr) (h : Heap) : List (Addr × Obj) := snap h μ ++ (ex ++ snap h (fs.map (·.1)))
theorem SR.news (S : SR Z ex fs L m μ σ h) : News Z.base L h (ledger ex fs μ h) := by
  intro p hp
  rcases List.mem_append.mp hp with hp | hp
  · obtain ⟨a, ha, rfl⟩ := List.mem_map.mp hp
    obtain ⟨n, hn, rfl⟩ := List.getElem_of_mem ha
    have hn' : n < σ.length := S.len ▸ hn
    obtain ⟨ob, x, _⟩ := S.obj n σ[n] μ[n] (by simp [hn']) (by simp [hn])
    exact ⟨by rw [x]; rfl, (S.own _ ha).1, (S.own _ ha).2.1⟩
  · rcases List.mem_append.mp hp with hp | hp
    · obtain ⟨x, b, c, _⟩ := S.ex p hp
      exact ⟨x, b, c⟩
    · obtain ⟨a, ha, rfl⟩ := List.mem_map.mp hp
      obtain ⟨q, hq, rfl⟩ := List.mem_map.mp ha
      obtain ⟨⟨o, x, _⟩, b, c, _⟩ := S.fs q hq
      exact ⟨by rw [x]; rfl, b, c⟩
/-- every object that the state speaks of stands at h' as at h -/
theorem SR.ofNews (S : SR Z ex fs L m μ σ h) (F : Fr Z.base L h' m) (N : ∀ p ∈ ledger ex fs μ h, h'.get? p.1 = some p.2) : SR Z ex fs L m μ σ h' where
  fr := F
  ex := fun p hp => by
    obtain ⟨_, b, c, d⟩ := S.ex p hp
    exact ⟨N p (List.mem_append_right _ (List.mem_append_left _ hp)), b, c, d⟩
  fs := fun p hp => by
    obtain ⟨⟨o, x, y⟩, b, c, d⟩ := S.fs p hp
    have := N (p.1, (h.get? p.1).getD default) (List.mem_append_right _ (List.mem_append_right _ (List.mem_map.mpr ⟨p.1, List.mem_map.mpr ⟨p, hp, rfl⟩, rfl⟩)))
    rw [x] at this
    exact ⟨⟨o, this, y⟩, b, c, d⟩
  len := S.len
  nodup := S.nodup
  own := S.own
  obj := fun n o a e ha => by
    obtain ⟨ob, x, y⟩ := S.obj n o a e ha
    have := N (a, (h.get? a).getD default) (List.mem_append_left _ (List.mem_map.mpr ⟨a, mem_of_at ha, rfl⟩))
    rw [x] at this
    exact ⟨ob, this, y⟩

theorem SR.add (S : SR Z ex fs L m μ σ h') {a : Addr} {o : AO} {ob : Obj} (hg : h'.get? a = some ob) (ha : a ∉ μ) (hL : a ≠ L) (hb : Z.base.get? a = none) (h1 : 1 < a) (hx : ∀ p ∈ ex, p.1 ≠ a) (hf : ∀ p ∈ fs, p.1 ≠ a) (r : OR (μ ++ [a]) o ob) :
    SR Z ex fs L m (μ ++ [a]) (σ ++ [o]) h' where
  fr := S.fr
  ex := fun p hp => by
    obtain ⟨x, b, c, d⟩ := S.ex p hp
    refine ⟨x, b, c, fun q => ?_⟩
    rcases List.mem_append.mp q with q | q
    · exact d q
    · exact hx p hp (List.mem_singleton.mp q)
  fs := fun p hp => by
    obtain ⟨x, b, c, d⟩ := S.fs p hp
    refine ⟨x, b, c, fun q => ?_⟩
    rcases List.mem_append.mp q with q | q
    · exact d q
    · exact hf p hp (List.mem_singleton.mp q)
  len := by simp [S.len]
  nodup := by
    rw [List.nodup_append]
    exact ⟨S.nodup, by simp, fun b hb c hc e => ha (by rw [List.mem_singleton.mp hc] at e; exact e ▸ hb)⟩
  own := fun b hb' => by
    rcases List.mem_append.mp hb' with q | q
    · exact S.own b q
    · rw [List.mem_singleton.mp q]; exact ⟨hL, hb, h1⟩
  obj := fun n o' b e hb' => by
    by_cases hn : n < σ.length
    · rw [List.getElem?_append_left hn] at e
      rw [List.getElem?_append_left (by rw [S.len]; exact hn)] at hb'
      obtain ⟨ob', x, y⟩ := S.obj n o' b e hb'
      exact ⟨ob', x, y.mono (Pre.add _ _)⟩
    · have hn' : σ.length ≤ n := Nat.le_of_not_lt hn
      rw [List.getElem?_append_right hn'] at e
      rw [List.getElem?_append_right (by rw [S.len]; exact hn'), S.len] at hb'
      have h0 : n - σ.length = 0 := by
        cases q : n - σ.length with
        | zero => rfl
        | succ k => rw [q] at e; simp at e
      rw [h0] at e hb'
      simp only [List.getElem?_cons_zero, Option.some.injEq] at e hb'
      subst e; subst hb'
      exact ⟨ob, hg, r⟩

theorem SR.fresh (S : SR Z ex fs L m μ σ h) : h.objs.size ∉ μ ∧ h.objs.size ≠ L ∧ Z.base.get? h.objs.size = none ∧ (∀ p ∈ ex, p.1 ≠ h.objs.size) ∧ ∀ p ∈ fs, p.1 ≠ h.objs.size := by
  refine ⟨fun q => Nat.lt_irrefl _ (S.lt q), Nat.ne_of_gt S.fr.ns.lt, ?_, fun p hp => Nat.ne_of_lt (Heap.lt_size (S.ex p hp).1), fun p hp => ?_⟩
  · cases hq : Z.base.get? h.objs.size with
    | none => rfl
    | some o' => exact absurd (S.baseLe hq) (Nat.lt_irrefl _)
  · obtain ⟨⟨o, x, _⟩, _⟩ := S.fs p hp
    exact Nat.ne_of_lt (Heap.lt_size x)

/-- the library's form of a new object -/
theorem SR.allocN (S : SR Z ex fs L m μ σ h) {o : AO} {ob : Obj} (F : Fr Z.base L h' m) (N : News Z.base L h' ((h.objs.size, ob) :: ledger ex fs μ h)) (r : OR (μ ++ [h.objs.size]) o ob) :
    SR Z ex fs L m (μ ++ [h.objs.size]) (σ ++ [o]) h' := by
  obtain ⟨a, b, c, d, e⟩ := S.fresh
  exact (S.ofNews F fun p hp => (N p (.tail _ hp)).1).add (N _ (.head _)).1 a b c S.gt1 d e r

theorem VR.last (S : SR Z ex fs L m μ σ h) (a : Addr) : VR (μ ++ [a]) (.obj σ.length) (.ref a) := ⟨a, by rw [← S.len]; simp, rfl⟩
theorem Post.allocN {s : Shared} {E : Value → Shared → Prop} {Q : Value → Shared → Prop} {o : AO} {ob : Obj} {tk : Nat} (hp : Post Z ex fs L m VR μ s Q E (Mini.alloc o σ)) (S : SR Z ex fs L m μ σ s.heap)
    (F : Fr Z.base L h' m) (N : News Z.base L h' ((s.heap.objs.size, ob) :: ledger ex fs μ s.heap)) (r : OR (μ ++ [s.heap.objs.size]) o ob) : Q (.ref s.heap.objs.size) { s with heap := h', toks := tk } :=
  hp _ _ h' tk (Pre.add _ _) (S.allocN F N r) (VR.last S _)
theorem Post.allocP {s : Shared} {E : Value → Shared → Prop} {Q : Value → Shared → Prop} {o : AO} {ob : Obj} {tk : Nat} (hp : Post Z ex fs L m VR μ s Q E (Mini.alloc o σ)) (S : SR Z ex fs L m μ σ s.heap)
    (hf : ob.isFreed = false) (r : OR (μ ++ [s.heap.objs.size]) o ob) : Q (.ref s.heap.objs.size) { s with heap := s.heap.push ob, toks := tk } :=
  hp _ _ _ tk (Pre.add _ _) (S.alloc hf r) (VR.last S _)
end
end Mini

end

section
set_option autoImplicit false
namespace Mini
open PySem PySem.W PySem.Calls PyProof PyProof.Rows PyProof.V PySem.Spec PySem.SeqAt

section
variable {Z : Cx} {ex : List (Addr × Obj)} {fs : List (Addr × Data)} {L : Addr} {m : Str → Option Value} {μ : List Addr} {σ : Store} {s : Shared} {A : Around} {E : Value → Shared → Prop}

theorem lim_small : lim = 100000 := rfl
theorem lim_line : lim + lim + 10 ≤ sizeLine := by decide

theorem OR.isList {xs : List AV} {ob : Obj} {h : Heap} {a : Addr} (r : OR μ (.list xs) ob) (g : h.get? a = some ob) : ∃ vs, h.IsList a vs ∧ VRs μ xs vs.toList ∧ vs.size = xs.length ∧ xs.length ≤ lim := by
  obtain ⟨z, vs, k, rfl, r⟩ := r
  exact ⟨vs, ⟨_, g, rfl, _, rfl⟩, r, by rw [r.length]; simp, z⟩
theorem OR.isRol {xs : List AV} {o ob : Obj} {h : Heap} {a : Addr} (r : OR μ (.rol xs o) ob) (g : h.get? a = some ob) : ∃ vs, h.IsList a vs ∧ VRs μ xs vs.toList ∧ vs.size = xs.length ∧ xs.length ≤ lim := by
  obtain ⟨_, z, vs, k, c, d, r⟩ := r
  exact ⟨vs, ⟨_, g, c, _, d⟩, r, by rw [r.length]; simp, z⟩
theorem OR.isTup {xs : List AV} {ob : Obj} {h : Heap} {a : Addr} (r : OR μ (.tup xs) ob) (g : h.get? a = some ob) : ∃ vs, IsTup h a vs ∧ VRs μ xs vs.toList ∧ vs.size = xs.length ∧ xs.length ≤ lim := by
  obtain ⟨z, vs, k, rfl, r⟩ := r
  exact ⟨vs, ⟨_, g, rfl, _, rfl⟩, r, by rw [r.length]; simp, z⟩

theorem truthy_snd {v : AV} {cv : Value} {b : Bool} {Q : Bool → Shared → Prop} (S : SR Z ex fs L m μ σ s.heap) (r : VR μ v cv) (e : truthy σ v = some b)
    (h : ∀ tk, Q b { s with toks := tk }) : wpAny (model Z.prog Z.w) A (PySem.truthy cv) Q E s := by
  cases v with
  | none => cases r; cases e; exact truthy_none (h s.toks)
  | bool b => cases r; cases e; exact wpAny_truthy_bool (h s.toks)
  | int i => obtain ⟨t, rfl⟩ := r; cases e; exact truthy_int (h s.toks)
  | str x => cases e
  | fix w => cases e
  | obj n =>
    obtain ⟨a, ha, rfl⟩ := r
    simp only [truthy] at e
    split at e
    · rename_i xs hn
      cases e
      obtain ⟨ob, g, r⟩ := S.at' hn ha
      obtain ⟨vs, hl, r, hsz, hz⟩ := r.isList g
      refine wpAny_truthy_list hl ?_ ?_
      · rw [hsz]; rw [lim_small] at hz; omega
      · have : (!vs.isEmpty) = (xs.length != 0) := by
          rw [Array.isEmpty, hsz]; rfl
        rw [this]; exact h _
    · rename_i xs o hn
      cases e
      obtain ⟨ob, g, r⟩ := S.at' hn ha
      obtain ⟨vs, hl, r, hsz, hz⟩ := r.isRol g
      refine wpAny_truthy_list hl ?_ ?_
      · rw [hsz]; rw [lim_small] at hz; omega
      · have : (!vs.isEmpty) = (xs.length != 0) := by
          rw [Array.isEmpty, hsz]; rfl
        rw [this]; exact h _
    · cases e

theorem small_lt {i : Int} (h : small i = true) : -2 ^ 64 < i ∧ i < 2 ^ 64 := by
  obtain ⟨a, b⟩ := Bool.and_eq_true_iff.mp h
  have a := of_decide_eq_true a
  have b := of_decide_eq_true b
  unfold iBnd at a b
  omega

theorem VRs.append {xs ys : List AV} {vs us : Array Value} (a : VRs μ xs vs.toList) (b : VRs μ ys us.toList) : VRs μ (xs ++ ys) ((vs.toList ++ us.toList).toArray).toList := by
  simpa using All2.append a b

theorem rep_toList (x : Value) (n : Nat) : (List.foldl (fun x1 x2 => x1 ++ x2) (#[] : Array Value) (List.replicate n #[x])).toList = List.replicate n x := by
  have : ∀ (acc : Array Value), (List.foldl (fun x1 x2 => x1 ++ x2) acc (List.replicate n #[x])).toList = acc.toList ++ List.replicate n x := by
    induction n with
    | zero => intro acc; simp
    | succ n ih => intro acc; rw [List.replicate_succ, List.foldl_cons, ih]; simp [List.replicate_succ]
  rw [this]; rfl

theorem mulOk_small {x : Str} {j : Int} (h1 : 0 ≤ j) (h2 : j < 1000) (h3 : x.length < 1000) : MulOk x j := by
  refine ⟨?_, fun _ _ => ?_, fun _ _ => ?_⟩
  · rw [Bool.or_eq_false_iff]
    exact ⟨decide_eq_false (by omega), decide_eq_false (by omega)⟩
  · have hj : 0 < j := by omega
    have : (x.length : Int) * j ≤ 1000 * 1000 := Int.mul_le_mul (by omega) (by omega) h1 (by omega)
    have := Int.le_ediv_of_mul_le hj (show (x.length : Int) * j ≤ 2 ^ 63 - 1 by omega)
    omega
  · have : x.length * j.toNat ≤ 1000 * 1000 := Nat.mul_le_mul (by omega) (by omega)
    have e : sizeLine = 16777216 := rfl
    exact decide_eq_false (by omega)

theorem bin_snd {op : Operator} {v w : AV} {cv cw : Value} {Q : Value → Shared → Prop} (S : SR Z ex fs L m μ σ s.heap) (rv : VR μ v cv) (rw' : VR μ w cw)
    (h : Post Z ex fs L m VR μ s Q E (binM op v w σ)) : wpAny (model Z.prog Z.w) A (binaryOp op cv cw) Q E s := by
  unfold binM at h
  split at h
  · obtain ⟨t, rfl⟩ := rv; obtain ⟨u, rfl⟩ := rw'
    exact PyProof.Rows.add_int (h.ok' S ⟨_, rfl⟩)
  · obtain ⟨t, rfl⟩ := rv; obtain ⟨u, rfl⟩ := rw'
    exact PyProof.Rows.sub_int' (h.ok' S ⟨_, rfl⟩)
  · obtain ⟨t, rfl⟩ := rv; obtain ⟨u, rfl⟩ := rw'
    split at h
    · rename_i hs
      have := small_lt (Bool.and_eq_true_iff.mp hs).1
      exact PyProof.Rows.mul_int (h.ok' S ⟨_, rfl⟩) (IntMulOk.of_left (intBits_le_64 this.1 this.2))
    · exact h.elim
  · obtain ⟨t, rfl⟩ := rv; obtain ⟨u, rfl⟩ := rw'
    split at h
    · exact h.elim
    · rename_i hs
      simp only [Bool.or_eq_true, Bool.not_eq_true', beq_iff_eq, not_or, Bool.not_eq_false, decide_eq_true_eq] at hs
      exact PyProof.Rows.floordiv_int hs.1 (h.ok' S ⟨_, rfl⟩) (.inl (noPylong_small hs.2))
  · obtain ⟨t, rfl⟩ := rv; obtain ⟨u, rfl⟩ := rw'
    split at h
    · exact h.elim
    · rename_i hs
      simp only [beq_iff_eq] at hs
      exact PyProof.Rows.mod_int' hs (h.ok' S ⟨_, rfl⟩)
  · obtain ⟨t, rfl⟩ := rv; obtain ⟨u, rfl⟩ := rw'
    split at h
    · rename_i hs
      simp only [Bool.and_eq_true, decide_eq_true_eq] at hs
      have := small_lt hs.2
      exact PyProof.Rows.lshift_int_small hs.1.1 (by omega) (by omega) (h.ok' S ⟨_, rfl⟩)
    · exact h.elim
  · obtain ⟨t, rfl⟩ := rv; obtain ⟨u, rfl⟩ := rw'
    split at h
    · refine add_str (fun t' tk => h.ok' S ⟨_, rfl⟩) (by have := lim_line; omega)
    · exact h.elim
  · obtain ⟨t, rfl⟩ := rv; obtain ⟨u, rfl⟩ := rw'
    split at h
    · rename_i hj
      simp only [Bool.and_eq_true, decide_eq_true_eq] at hj
      exact SB.mul (mulOk_small hj.1.1 hj.1.2 hj.2) fun t' tk => h.ok' S ⟨_, rfl⟩
    · exact h.elim
  · -- list + list, tuple + tuple
    obtain ⟨a, ha, rfl⟩ := rv; obtain ⟨b, hb, rfl⟩ := rw'
    split at h
    · rename_i xs ys hn hm
      split at h
      · rename_i hz
        obtain ⟨ob, g, r⟩ := S.at' hn ha
        obtain ⟨vs, hl, r, hsz, z⟩ := r.isList g
        obtain ⟨ob', g', r'⟩ := S.at' hm hb
        obtain ⟨us, hl', r', hsz', z'⟩ := r'.isList g'
        refine add_arrays S.fr S.news hl hl' (fun h' F' N' => ?_) (by have := lim_line; omega)
        exact h.allocN (tk := s.toks) S F' N' ⟨by simp; omega, _, 0, rfl, VRs.mono (Pre.add _ _) (VRs.append r r')⟩
      · exact h.elim
    · rename_i xs ys hn hm
      obtain ⟨ob, g, r⟩ := S.at' hn ha
      obtain ⟨vs, hl, r, hsz, z⟩ := r.isTup g
      obtain ⟨ob', g', r'⟩ := S.at' hm hb
      obtain ⟨us, hl', r', hsz', z'⟩ := r'.isTup g'
      have hvs : vs.toList = [] ↔ xs = [] := by
        rw [← List.length_eq_zero_iff, ← List.length_eq_zero_iff, r.length]
      have hus : us.toList = [] ↔ ys = [] := by
        rw [← List.length_eq_zero_iff, ← List.length_eq_zero_iff, r'.length]
      refine add_tuples (vs := vs.toList) (ws := us.toList) S.fr S.news (by simpa using hl) (by simpa using hl') (fun e => ?_) (fun e e' => ?_) (fun e e' h' F' N' => ?_) (by simp; have := lim_line; omega)
      · rw [hvs.mp e] at h
        exact h.ok0 S ⟨_, hb, rfl⟩
      · have hx : xs.isEmpty = false := by
          cases xs with
          | nil => exact absurd (hvs.mpr rfl) e
          | cons => rfl
        rw [hx, hus.mp e'] at h
        exact h.ok0 S ⟨_, ha, rfl⟩
      · have hx : xs.isEmpty = false := by
          cases xs with
          | nil => exact absurd (hvs.mpr rfl) e
          | cons => rfl
        have hy : ys.isEmpty = false := by
          cases ys with
          | nil => exact absurd (hus.mpr rfl) e'
          | cons => rfl
        rw [hx, hy] at h
        simp only [Bool.false_eq_true, if_false] at h
        split at h
        · exact h.allocN (tk := s.toks) S F' N' ⟨by simp; omega, _, 0, rfl, VRs.mono (Pre.add _ _) (VRs.append r r')⟩
        · exact h.elim
    · exact h.elim
  · -- list * int
    obtain ⟨a, ha, rfl⟩ := rv; obtain ⟨t, rfl⟩ := rw'
    split at h
    · rename_i x hn
      split at h
      · rename_i hj
        simp only [Bool.and_eq_true, decide_eq_true_eq] at hj
        obtain ⟨ob, g, r⟩ := S.at' hn ha
        obtain ⟨_, vs, k, rfl, r⟩ := r
        obtain ⟨v, rfl, rv⟩ : ∃ v, vs = #[v] ∧ VR μ x v := by
          obtain ⟨l⟩ := vs
          cases r with
          | cons r r' => cases r'; exact ⟨_, rfl, r⟩
        refine PyProof.Rows.mul_list S.fr S.news g (by omega) (by omega) (by simp; omega) (fun h' F' N' => ?_)
        refine h.allocN (tk := s.toks) S F' N' ⟨by simp; rw [lim_small]; omega, _, 0, rfl, ?_⟩
        rw [if_neg (by simp), rep_toList]
        exact VRs.mono (Pre.add _ _) (All2.replicate rv _)
      · exact h.elim
    · exact h.elim
  · exact h.elim
end
end Mini

end

section
set_option autoImplicit false
namespace Mini
open PySem PySem.W PySem.Calls PyProof PyProof.Rows PyProof.V PySem.Spec PySem.SeqAt

section
variable {Z : Cx} {ex : List (Addr × Obj)} {fs : List (Addr × Data)} {L : Addr} {m : Str → Option Value} {μ : List Addr} {σ : Store} {s : Shared} {A : Around} {E : Value → Shared → Prop}

theorem mapM_cons_some {α β : Type} {f : α → Option β} {x : α} {xs : List α} {ys : List β} (h : (x :: xs).mapM f = some ys) : ∃ y r, ys = y :: r ∧ f x = some y ∧ xs.mapM f = some r := by
  rw [List.mapM_cons] at h
  cases hx : f x with
  | none => rw [hx] at h; cases h
  | some y =>
    rw [hx] at h
    cases hr : xs.mapM f with
    | none => rw [hr] at h; cases h
    | some r => rw [hr] at h; cases h; exact ⟨y, r, rfl, rfl, rfl⟩

theorem ints_of {xs : List AV} {is : List Int} {vs : List Value} (h : xs.mapM intOf = some is) (r : VRs μ xs vs) : All2 (fun (i : Int) (v : Value) => ∃ t, v = .int i t) is vs := by
  induction r generalizing is with
  | nil => cases h; exact .nil
  | @cons x v xs vs r _ ih =>
    obtain ⟨y, ys, rfl, hy, hr⟩ := mapM_cons_some h
    cases x <;> first | cases hy; done | skip
    cases hy
    exact .cons r (ih hr)
theorem bools_of {xs : List AV} {is : List Bool} {vs : List Value} (h : xs.mapM boolOf = some is) (r : VRs μ xs vs) : All2 (fun (i : Bool) (v : Value) => v = .bool i) is vs := by
  induction r generalizing is with
  | nil => cases h; exact .nil
  | @cons x v xs vs r _ ih =>
    obtain ⟨y, ys, rfl, hy, hr⟩ := mapM_cons_some h
    cases x <;> first | cases hy; done | skip
    cases hy
    exact .cons r (ih hr)

def hitI (i : Int) : Value → Bool
  | .int j _ => j == i
  | _ => false
def hitB (i : Bool) : Value → Bool
  | .bool j => j == i
  | _ => false
theorem any_ints {i : Int} {is : List Int} {vs : List Value} (r : All2 (fun (i : Int) (v : Value) => ∃ t, v = .int i t) is vs) : vs.any (hitI i) = is.contains i := by
  induction r with
  | nil => rfl
  | cons r _ ih =>
    obtain ⟨t, rfl⟩ := r
    rw [List.any_cons, List.contains_cons, ih, hitI, Bool.beq_comm]
theorem any_bools {i : Bool} {is : List Bool} {vs : List Value} (r : All2 (fun (i : Bool) (v : Value) => v = .bool i) is vs) : vs.any (hitB i) = is.contains i := by
  induction r with
  | nil => rfl
  | cons r _ ih =>
    cases r
    rw [List.any_cons, List.contains_cons, ih, hitB, Bool.beq_comm]
theorem All2.memR {α β : Type} {R : α → β → Prop} {l : List α} {k : List β} (r : All2 R l k) {b : β} (h : b ∈ k) : ∃ a ∈ l, R a b := by
  induction r with
  | nil => cases h
  | cons r _ ih =>
    cases h with
    | head => exact ⟨_, .head _, r⟩
    | tail _ h => obtain ⟨a, x, y⟩ := ih h; exact ⟨a, .tail _ x, y⟩

theorem OR.intMap {es : List (Int × AV)} {ob : Obj} {h : Heap} {a : Addr} (r : OR μ (.dict es) ob) (g : h.get? a = some ob) :
    ∃ f : Int → Option Value, h.IntMap a f ∧ ∀ k, (match es.lookup k, f k with | some v, some cv => VR μ v cv | none, none => True | _, _ => False) := by
  obtain ⟨z, ds, k, rfl, r⟩ := r
  refine ⟨fun k => findBy Value.isInt ds.toArray k, ⟨_, _, _, g, rfl, rfl, ?_, fun _ => rfl⟩, fun k => ?_⟩
  · intro e he
    obtain ⟨p, _, hp⟩ := r.memR (by simpa using he)
    obtain ⟨⟨t, a, b⟩, _⟩ := hp
    exact ⟨_, t, a, b⟩
  · clear g
    simp only [findBy, List.find?_toArray]
    induction r with
    | nil => simp
    | @cons p e es ds r _ ih =>
      obtain ⟨⟨t, a, b⟩, c⟩ := r
      obtain ⟨pk, pv⟩ := p
      simp only at a c
      rw [List.lookup_cons, List.find?_cons, a]
      simp only [Value.isInt]
      by_cases hk : pk = k
      · subst hk; simpa using c
      · have h1 : (pk == k) = false := by simpa using hk
        have h2 : (k == pk) = false := by simpa using fun e => hk e.symm
        rw [h1, h2]
        exact ih ⟨by have := z.1; simp at this; omega, by have := z.2; rw [List.map_cons, List.nodup_cons] at this; exact this.2⟩

def NotQ (Q : Value → Shared → Prop) (v : Value) (s : Shared) : Prop := match v with
  | .bool b => Q (.bool (!b)) s
  | _ => False
theorem notIn_of_in {M : Model} {x c : Value} {Q : Value → Shared → Prop} (h : wpAny M A (compareOp .In x c) (NotQ Q) E s) : wpAny M A (compareOp .NotIn x c) Q E s := fun Γ p hΓ => by
  have := h Γ p hΓ
  simp only [compareOp, Sem.wp_bind', Sem.wp_pure'] at this ⊢
  exact this

theorem contains_snd {v c : AV} {cv cc : Value} {b : Bool} (S : SR Z ex fs L m μ σ s.heap) (rv : VR μ v cv) (rc : VR μ c cc) (e : containsM σ v c = some b) :
    (∀ (Q : Value → Shared → Prop), (∀ tk, Q (.bool b) { s with toks := tk }) → wpAny (model Z.prog Z.w) A (compareOp .In cv cc) Q E s) ∧
    (∀ (Q : Value → Shared → Prop), (∀ tk, Q (.bool (!b)) { s with toks := tk }) → wpAny (model Z.prog Z.w) A (compareOp .NotIn cv cc) Q E s) := by
  unfold containsM at e
  split at e
  · obtain ⟨a, ha, rfl⟩ := rc
    split at e
    · rename_i xs hn
      obtain ⟨ob, g, r⟩ := S.at' hn ha
      obtain ⟨vs, hl, r, hsz, z⟩ := r.isList g
      unfold memV at e
      split at e
      · rename_i i0
        obtain ⟨t, rfl⟩ := rv
        obtain ⟨is, h1, rfl⟩ := Option.map_eq_some_iff.mp e
        have q := ints_of h1 r
        have he : ∀ y, y ∈ vs → EqAt A.in1 s y (.int i0 t) (hitI i0 y) := fun y hy => by
          obtain ⟨i, _, u, rfl⟩ := q.memR (b := y) (by simpa using hy)
          exact EqAt.int_int _ _ _ _
        refine ⟨fun Q h => in_listAt (hitI i0) hl he ?_, fun Q h => notIn_listAt (hitI i0) hl he ?_⟩ <;>
        · rw [← Array.any_toList, any_ints q]; exact h s.toks
      · rename_i i0
        cases rv
        obtain ⟨is, h1, rfl⟩ := Option.map_eq_some_iff.mp e
        have q := bools_of h1 r
        have he : ∀ y, y ∈ vs → EqAt A.in1 s y (.bool i0) (hitB i0 y) := fun y hy => by
          obtain ⟨i, _, rfl⟩ := q.memR (b := y) (by simpa using hy)
          exact EqAt.bool_bool _ _
        refine ⟨fun Q h => in_listAt (hitB i0) hl he ?_, fun Q h => notIn_listAt (hitB i0) hl he ?_⟩ <;>
        · rw [← Array.any_toList, any_bools q]; exact h s.toks
      · cases e
    · rename_i es hn
      split at e
      · obtain ⟨t, rfl⟩ := rv
        obtain ⟨ob, g, r⟩ := S.at' hn ha
        obtain ⟨f, hm, hf⟩ := r.intMap g
        cases e
        rename_i k
        have hk : (f k).isSome = (es.lookup k).isSome := by
          have := hf k
          cases h1 : es.lookup k <;> cases h2 : f k <;> rw [h1, h2] at this <;> first | rfl | exact this.elim
        have key : ∀ (Q : Value → Shared → Prop), (∀ tk, Q (.bool (es.lookup k).isSome) { s with toks := tk }) → wpAny (model Z.prog Z.w) A (compareOp .In (.int k t) (.ref a)) Q E s := fun Q h => wpAny_in_intMap hm (by rw [hk]; exact h _)
        exact ⟨key, fun Q h => notIn_of_in (key (NotQ Q) h)⟩
      · cases e
    · cases e
  · cases e
end
end Mini

end

section
set_option autoImplicit false
namespace Mini
open PySem PySem.W PySem.Calls PyProof PyProof.Rows PyProof.V PySem.Spec PySem.SeqAt

section
variable {Z : Cx} {ex : List (Addr × Obj)} {fs : List (Addr × Data)} {L : Addr} {m : Str → Option Value} {μ : List Addr} {σ : Store} {s : Shared} {A : Around} {E : Value → Shared → Prop}

theorem eqAll_len {f : AV → AV → Option Bool} : ∀ {xs ys : List AV} {b : Bool}, eqAll f xs ys = some b → xs.length = ys.length
  | [], [], _, _ => rfl
  | x :: xs, y :: ys, b, e => by
    simp only [eqAll] at e
    obtain ⟨a, _, e⟩ := Option.bind_eq_some_iff.mp e
    obtain ⟨c, h, _⟩ := Option.map_eq_some_iff.mp e
    simp [eqAll_len h]
  | [], _ :: _, _, e => by cases e
  | _ :: _, [], _, e => by cases e
theorem eqAll_get {f : AV → AV → Option Bool} : ∀ {xs ys : List AV} {b : Bool}, eqAll f xs ys = some b → ∃ e : Nat → Bool, (∀ j x y, xs[j]? = some x → ys[j]? = some y → f x y = some (e j)) ∧ (List.range xs.length).all e = b
  | [], [], _, h => by cases h; exact ⟨fun _ => true, fun j x y h => by simp at h, rfl⟩
  | x :: xs, y :: ys, b, h => by
    simp only [eqAll] at h
    obtain ⟨a, h1, h⟩ := Option.bind_eq_some_iff.mp h
    obtain ⟨c, h2, rfl⟩ := Option.map_eq_some_iff.mp h
    obtain ⟨e, he, hb⟩ := eqAll_get h2
    refine ⟨fun j => match j with | 0 => a | j + 1 => e j, fun j x' y' hx hy => ?_, ?_⟩
    · cases j with
      | zero => simp at hx hy; subst hx; subst hy; exact h1
      | succ j => simp at hx hy; exact he j x' y' hx hy
    · rw [List.length_cons, List.range_succ_eq_map, List.all_cons, List.all_map]
      rw [← hb]; rfl
  | [], _ :: _, _, e => by cases e
  | _ :: _, [], _, e => by cases e
theorem eqAll_refl {f : AV → AV → Option Bool} (hf : ∀ x b, f x x = some b → b = true) : ∀ {xs : List AV} {b : Bool}, eqAll f xs xs = some b → b = true
  | [], _, h => by cases h; rfl
  | x :: xs, b, h => by
    simp only [eqAll] at h
    obtain ⟨a, h1, h⟩ := Option.bind_eq_some_iff.mp h
    obtain ⟨c, h2, rfl⟩ := Option.map_eq_some_iff.mp h
    rw [hf _ _ h1, eqAll_refl hf h2]; rfl
theorem eqv_refl : ∀ {n : Nat} {a : AV} {b : Bool}, eqv σ n a a = some b → b = true
  | 0, _, _, h => by cases h
  | n + 1, a, b, h => by
    cases a with
    | int i => simpa [eqv] using h
    | bool i => simpa [eqv] using h
    | str i => simpa [eqv] using h
    | none => cases h
    | fix v => cases h
    | obj i =>
      simp only [eqv] at h
      split at h
      · rename_i xs ys h1 h2
        rw [h1] at h2
        cases h2
        exact eqAll_refl (fun x b h => eqv_refl h) h
      · rename_i xs ys h1 h2
        rw [h1] at h2
        cases h2
        simp only [beq_self_eq_true, if_true] at h
        exact eqAll_refl (fun x b h => eqv_refl h) h
      · cases h

theorem eqv_both (S : SR Z ex fs L m μ σ s.heap) : ∀ {n : Nat} {A : Around} {a b : AV} {ca cb : Value} {r : Bool}, A.units + 2 * n < cLine → eqv σ n a b = some r → VR μ a ca → VR μ b cb → EqAt A s ca cb r ∧ RcAt A s ca cb r
  | 0, _, _, _, _, _, _, _, e, _, _ => by cases e
  | n + 1, A, a, b, ca, cb, r, hu, e, ra, rb => by
    simp only [eqv] at e
    split at e
    · obtain ⟨t, rfl⟩ := ra; obtain ⟨u, rfl⟩ := rb; cases e; exact ⟨EqAt.int_int _ _ _ _, RcAt.int_int _ _ _ _⟩
    · cases ra; cases rb; cases e; exact ⟨EqAt.bool_bool _ _, RcAt.bool_bool _ _⟩
    · obtain ⟨t, rfl⟩ := ra; obtain ⟨u, rfl⟩ := rb; cases e; exact ⟨EqAt.str_str _ _ _ _, RcAt.str_str _ _ _ _⟩
    · rename_i i j
      have e0 := e
      obtain ⟨x, hx, rfl⟩ := ra
      obtain ⟨y, hy, rfl⟩ := rb
      have rc : RcAt A s (.ref x) (.ref y) r := by
        split at e
        · rename_i xs ys h1 h2
          obtain ⟨ob, g, r1⟩ := S.at' h1 hx
          obtain ⟨vs, hl, r1, z1, _⟩ := r1.isTup g
          obtain ⟨ob', g', r2⟩ := S.at' h2 hy
          obtain ⟨us, hl', r2, z2, _⟩ := r2.isTup g'
          obtain ⟨f, hf, hb⟩ := eqAll_get e
          have hlen := eqAll_len e
          have hmin : min vs.size us.size = xs.length := by omega
          have := RcAt.tuples (A := A) (e := f) hl hl' (by omega) fun j h3 h4 => by
            obtain ⟨v, q1, q2⟩ := r1.get (i := j) (a := xs[j]'(by omega)) (by simp)
            obtain ⟨u, q3, q4⟩ := r2.get (i := j) (a := ys[j]'(by omega)) (by simp)
            have e1 : vs[j] = v := by simpa [h3] using q1
            have e2 : us[j] = u := by simpa [h4] using q3
            rw [e1, e2]
            exact (eqv_both S (A := A.in1) (by simp; omega) (hf j _ _ (List.getElem?_eq_getElem _) (List.getElem?_eq_getElem _)) q2 q4).1
          rw [hmin, hb, show (vs.size == us.size) = true by simp; omega, Bool.and_true] at this
          exact this
        · rename_i xs ys h1 h2
          obtain ⟨ob, g, r1⟩ := S.at' h1 hx
          obtain ⟨vs, hl, r1, z1, _⟩ := r1.isList g
          obtain ⟨ob', g', r2⟩ := S.at' h2 hy
          obtain ⟨us, hl', r2, z2, _⟩ := r2.isList g'
          split at e
          · rename_i hlen
            obtain ⟨f, hf, hb⟩ := eqAll_get e
            have hlen := eqAll_len e
            have := RcAt.lists (A := A) (e := f) hl hl' (by omega) (by omega) fun j h3 h4 => by
              obtain ⟨v, q1, q2⟩ := r1.get (i := j) (a := xs[j]'(by omega)) (by simp)
              obtain ⟨u, q3, q4⟩ := r2.get (i := j) (a := ys[j]'(by omega)) (by simp)
              have e1 : vs[j] = v := by simpa [h3] using q1
              have e2 : us[j] = u := by simpa [h4] using q3
              rw [e1, e2]
              exact (eqv_both S (A := A.in1) (by simp; omega) (hf j _ _ (List.getElem?_eq_getElem _) (List.getElem?_eq_getElem _)) q2 q4).1
            rw [z1, hb] at this
            exact this
          · rename_i hlen
            cases e
            exact RcAt.lists_lengths hl hl' (by simp at hlen ⊢; omega) (by omega)
        · cases e
      refine ⟨?_, rc⟩
      by_cases hij : i = j
      · subst hij
        rw [hx] at hy; cases hy
        have : r = true := eqv_refl (σ := σ) (n := n + 1) (a := .obj i) (by simp only [eqv]; exact e0)
        rw [this]; exact EqAt.same _
      · have hne : x ≠ y := fun q => hij (S.inj hx (q ▸ hy))
        exact EqAt.of_refs hne rc
    · cases e

theorem cmpP_snd {op : CmpOp} {v w : AV} {cv cw : Value} {b : Bool} {Q : Value → Shared → Prop} (hu : A.units + 10 < cLine) (S : SR Z ex fs L m μ σ s.heap) (rv : VR μ v cv) (rw' : VR μ w cw)
    (e : cmpP op v w σ = some b) (h : ∀ tk, Q (.bool b) { s with toks := tk }) : wpAny (model Z.prog Z.w) A (compareOp op cv cw) Q E s := by
  unfold cmpP at e
  split at e
  · obtain ⟨t, rfl⟩ := rv; obtain ⟨u, rfl⟩ := rw'; cases e; exact PyProof.Rows.lt_int (h s.toks)
  · obtain ⟨t, rfl⟩ := rv; obtain ⟨u, rfl⟩ := rw'; cases e; exact PyProof.Rows.le_int (h s.toks)
  · obtain ⟨t, rfl⟩ := rv; obtain ⟨u, rfl⟩ := rw'; cases e; exact PyProof.Rows.gt_int (h s.toks)
  · obtain ⟨t, rfl⟩ := rv; obtain ⟨u, rfl⟩ := rw'; cases e; exact PyProof.Rows.ge_int (h s.toks)
  · obtain ⟨t, rfl⟩ := rv; obtain ⟨u, rfl⟩ := rw'; cases e; exact PyProof.Rows.ne_int (h s.toks)
  · exact (eqv_both S (A := A) (by omega) e rv rw').2 Z.prog Z.w E Q (h s.toks)
  · cases rv; cases rw'; cases e; exact wpAny_is_plain rfl (h s.toks)
  · obtain ⟨t, rfl⟩ := rv; cases rw'; cases e; exact wpAny_is_plain rfl (h s.toks)
  · exact (contains_snd S rv rw' e).1 Q h
  · obtain ⟨c, hc, rfl⟩ := Option.map_eq_some_iff.mp e
    exact (contains_snd S rv rw' hc).2 Q h
  · cases e

/-! ### items -/
theorem place_pos {i : Int} {n k : Nat} (h : place i n = some k) : k < n ∧ ((0 ≤ i ∧ i.toNat = k) ∨ (i < 0 ∧ -(n : Int) ≤ i ∧ (i + n).toNat = k)) := by
  unfold place at h
  split at h
  · split at h
    · cases h; omega
    · cases h
  · split at h
    · cases h; omega
    · cases h

theorem getItem_snd {v i : AV} {cv ci : Value} {Q : Value → Shared → Prop} (S : SR Z ex fs L m μ σ s.heap) (rv : VR μ v cv) (ri : VR μ i ci)
    (h : Post Z ex fs L m VR μ s Q E (getItemM v i σ)) : wpAny (model Z.prog Z.w) A (getItem cv ci) Q E s := by
  unfold getItemM at h
  split at h
  · obtain ⟨a, ha, rfl⟩ := rv
    split at h
    · rename_i xs k hn
      obtain ⟨t, rfl⟩ := ri
      obtain ⟨ob, g, r⟩ := S.at' hn ha
      obtain ⟨vs, hl, r, hsz, z⟩ := r.isList g
      rw [lim_small] at z
      cases e : (place k xs.length).bind fun k => xs[k]? with
      | none => rw [e] at h; exact h.elim
      | some x =>
        rw [e] at h
        obtain ⟨j, h1, h2⟩ := Option.bind_eq_some_iff.mp e
        obtain ⟨w, h3, h4⟩ := r.get h2
        obtain ⟨hj, hp⟩ := place_pos h1
        rcases hp with ⟨p, q⟩ | ⟨p, p', q⟩
        · exact wpAny_getItem_list hl p (by omega) (x := w) (by rw [q, ← Array.getElem?_toList]; exact h3) (h.ok0 S h4)
        · exact wpAny_getItem_list_neg hl p (by omega) (by omega) (x := w) (by rw [hsz, q, ← Array.getElem?_toList]; exact h3) (h.ok0 S h4)
    · rename_i xs o k hn
      obtain ⟨t, rfl⟩ := ri
      obtain ⟨ob, g, r⟩ := S.at' hn ha
      obtain ⟨vs, hl, r, hsz, z⟩ := r.isRol g
      rw [lim_small] at z
      cases e : (place k xs.length).bind fun k => xs[k]? with
      | none => rw [e] at h; exact h.elim
      | some x =>
        rw [e] at h
        obtain ⟨j, h1, h2⟩ := Option.bind_eq_some_iff.mp e
        obtain ⟨w, h3, h4⟩ := r.get h2
        obtain ⟨hj, hp⟩ := place_pos h1
        rcases hp with ⟨p, q⟩ | ⟨p, p', q⟩
        · exact wpAny_getItem_list hl p (by omega) (x := w) (by rw [q, ← Array.getElem?_toList]; exact h3) (h.ok0 S h4)
        · exact wpAny_getItem_list_neg hl p (by omega) (by omega) (x := w) (by rw [hsz, q, ← Array.getElem?_toList]; exact h3) (h.ok0 S h4)
    · rename_i xs k hn
      obtain ⟨t, rfl⟩ := ri
      obtain ⟨ob, g, r⟩ := S.at' hn ha
      obtain ⟨vs, hl, r, hsz, z⟩ := r.isTup g
      rw [lim_small] at z
      cases e : (place k xs.length).bind fun k => xs[k]? with
      | none => rw [e] at h; exact h.elim
      | some x =>
        rw [e] at h
        obtain ⟨j, h1, h2⟩ := Option.bind_eq_some_iff.mp e
        obtain ⟨w, h3, h4⟩ := r.get h2
        obtain ⟨hj, hp⟩ := place_pos h1
        refine getItem_tuple hl (by omega) (by omega) (j := j) (x := w) ?_ (by rw [← Array.getElem?_toList]; exact h3) (h.ok0 S h4)
        unfold seqIndex?
        rcases hp with ⟨p, q⟩ | ⟨p, p', q⟩
        · have h0 : ¬ k < 0 := by omega
          simp only [h0, if_false, hsz]
          rw [if_pos (by simp; omega), q]
        · simp only [p, if_true, hsz]
          rw [if_pos (by simp; omega), q]
    · rename_i es k hn
      obtain ⟨t, rfl⟩ := ri
      obtain ⟨ob, g, r⟩ := S.at' hn ha
      obtain ⟨f, hm, hf⟩ := r.intMap g
      have q := hf k
      cases h1 : es.lookup k with
      | none => rw [h1] at h; unfold Post ExcPost at h; exact h.elim
      | some x =>
        rw [h1] at h q
        cases h2 : f k with
        | none => rw [h2] at q; exact q.elim
        | some cx => rw [h2] at q; exact wpAny_getItem_intMap hm h2 (h.ok' S q)
    · rename_i es hn
      obtain ⟨ob, _, r⟩ := S.at' hn ha
      exact r.elim
    · exact h.elim
  · exact h.elim
end
end Mini

end

section
set_option autoImplicit false
namespace Mini
open PySem PySem.W PySem.Calls PyProof PyProof.Rows PyProof.V PySem.Spec PySem.SeqAt

section
variable {Z : Cx} {ex : List (Addr × Obj)} {fs : List (Addr × Data)} {L : Addr} {m : Str → Option Value} {μ : List Addr} {σ : Store} {s : Shared} {A : Around} {E : Value → Shared → Prop}

theorem SR.listAt (S : SR Z ex fs L m μ σ s.heap) {n : Nat} {xs : List AV} {a : Addr} (hn : σ[n]? = some (.list xs)) (ha : μ[n]? = some a) :
    ∃ vs k, s.heap.get? a = some (listOf vs k) ∧ VRs μ xs vs.toList ∧ vs.size = xs.length ∧ xs.length ≤ lim := by
  obtain ⟨ob, g, r⟩ := S.at' hn ha
  obtain ⟨z, vs, k, rfl, r⟩ := r
  exact ⟨vs, k, g, r, by rw [r.length]; simp, z⟩

/-- a list of the own is turned -/
theorem SR.seq (S : SR Z ex fs L m μ σ s.heap) {n : Nat} {a : Addr} {vs : Array Value} {k : Nat} (ha : μ[n]? = some a) (g : s.heap.get? a = some (listOf vs k)) (f : Array Value → Array Value) {xs' : List AV}
    (r : VRs μ xs' (f vs).toList) (z : xs'.length ≤ lim) : SR Z ex fs L m μ (σ.set n (.list xs')) (s.heap.update a (Obj.mapSeq f)) :=
  S.update ha (Heap.SameBut.update ..) (PySem.IsL.update g f) ⟨z, _, _, rfl, r⟩

theorem dictKeys {es : List (Int × AV)} {ds : List DictEntry} (r : All2 (EV μ) es ds) : IntKeys ds.toArray := fun e he => by
  obtain ⟨p, _, hp⟩ := r.memR (b := e) (by simpa using he)
  obtain ⟨⟨t, a, b⟩, _⟩ := hp
  exact ⟨_, t, a, b⟩
theorem putKey_len {k : Int} {v : AV} : ∀ {es : List (Int × AV)}, (putKey k v es).length ≤ es.length + 1
  | [] => Nat.le_refl _
  | p :: r => by
    simp only [putKey]
    split
    · simp
    · have := putKey_len (k := k) (v := v) (es := r)
      simp only [List.length_cons]; omega
theorem putKey_keys {k : Int} {v : AV} : ∀ {es : List (Int × AV)}, (putKey k v es).map (·.1) = if k ∈ es.map (·.1) then es.map (·.1) else es.map (·.1) ++ [k]
  | [] => rfl
  | p :: r => by
    simp only [putKey]
    by_cases h : p.1 = k
    · rw [if_pos (by simpa using h)]
      simp [h]
    · rw [if_neg (by simpa using h)]
      have h' : ¬ k = p.1 := fun e => h e.symm
      simp only [List.map_cons, List.mem_cons, h', false_or]
      rw [putKey_keys]
      split <;> rfl
theorem putKey_nodup {k : Int} {v : AV} {es : List (Int × AV)} (h : (es.map (·.1)).Nodup) : ((putKey k v es).map (·.1)).Nodup := by
  rw [putKey_keys]
  split
  · exact h
  · rename_i q
    rw [List.nodup_append]
    exact ⟨h, by simp, fun a ha b hb e => q (by rw [List.mem_singleton.mp hb] at e; exact e ▸ ha)⟩
theorem put_hit {k : Int} {v : AV} {cv : Value} {es : List (Int × AV)} {ds : List DictEntry} (r : All2 (EV μ) es ds) (rv : VR μ v cv) {i : Nat} (hi : ds.findIdx? (fun e => Value.isInt k e.key) = some i) :
    All2 (EV μ) (putKey k v es) (ds.modify i fun e => { e with val := cv }) := by
  induction r generalizing i with
  | nil => simp at hi
  | @cons p e es ds r r' ih =>
    obtain ⟨⟨t, a, b⟩, c⟩ := r
    rw [List.findIdx?_cons] at hi
    have hk : Value.isInt k e.key = (p.1 == k) := by
      rw [a, Value.isInt, Bool.beq_comm]
    rw [hk] at hi
    simp only [putKey]
    by_cases h : (p.1 == k) = true
    · rw [if_pos h] at hi ⊢
      cases hi
      exact .cons ⟨⟨t, a, b⟩, rv⟩ r'
    · rw [if_neg h] at hi ⊢
      obtain ⟨j, hj, rfl⟩ := Option.map_eq_some_iff.mp hi
      exact .cons ⟨⟨t, a, b⟩, c⟩ (ih hj)
theorem put_new {k : Int} {t : Tok} {v : AV} {cv : Value} {es : List (Int × AV)} {ds : List DictEntry} (r : All2 (EV μ) es ds) (rv : VR μ v cv) (hi : ds.findIdx? (fun e => Value.isInt k e.key) = none) :
    All2 (EV μ) (putKey k v es) (ds ++ [⟨hashInt k, .int k t, cv⟩]) := by
  induction r with
  | nil => exact .cons ⟨⟨t, rfl, rfl⟩, rv⟩ .nil
  | @cons p e es ds r r' ih =>
    obtain ⟨⟨t', a, b⟩, c⟩ := r
    rw [List.findIdx?_cons] at hi
    have hk : Value.isInt k e.key = (p.1 == k) := by
      rw [a, Value.isInt, Bool.beq_comm]
    rw [hk] at hi
    simp only [putKey]
    by_cases h : (p.1 == k) = true
    · rw [if_pos h] at hi; cases hi
    · rw [if_neg h] at hi ⊢
      exact .cons ⟨⟨t', a, b⟩, c⟩ (ih (by simpa using hi))

theorem setItem_int {prog : Program} {w : World} {d : Addr} {ds : List DictEntry} {c : Nat} {k : Int} {t : Tok} {v : Value} {Q : Unit → Shared → Prop} (g : s.heap.get? d = some (dictOf ds c)) (hk : IntKeys ds.toArray) (hz : ds.length ≤ sizeLine)
    (hQ : ∀ f : Obj → Obj, ((∃ i, ds.findIdx? (fun e => Value.isInt k e.key) = some i ∧ f (dictOf ds c) = dictOf (ds.modify i fun e => { e with val := v }) c) ∨
      (ds.findIdx? (fun e => Value.isInt k e.key) = none ∧ f (dictOf ds c) = dictOf (ds ++ [⟨hashInt k, .int k t, v⟩]) (c + 1))) → Q () { s with heap := s.heap.update d f, toks := s.toks + 1 }) :
    wpAny (model prog w) A (setItem (.ref d) (.int k t) v) Q E s := by
  have hT : s.TypeIs (.ref d) "dict" := ⟨_, g, rfl⟩
  unfold setItem
  try with_reducible refine wpAny_holding ?_
  refine wpAny_bind (wpAny_sequenceKey hT (by decide) ?_)
  refine wpAny_bind (wpAny_callSpecial?_slot (name := Str.ofString "__setitem__") hT slot_dict_setitem
    (wpAny_call_entry slot_dict_setitem hT entry_dict_setitem ?_ (args_dict_setitem _ _ _)))
  show wpAny _ _ (Builtin.Dict.notOrdered "__setitem__" ⟨[.ref d, .int k t, v], []⟩ >>= _) _ _ s
  refine wpAny_bind (wpAny_notOrdered_dict hT ?_)
  show wpAny _ _ (dictSet d (.int k t) v >>= _) _ _ s
  refine wpAny_bind ?_
  unfold dictSet
  refine wpAny_holding (wpAny_bind (wpAny_pyHash_int ?_))
  unfold dictSetHashed
  refine wpAny_holding (wpAny_bind (wpAny_dictFind_int (s := { s with toks := s.toks + 1 }) g rfl hk ?_))
  have e0 : ds.toArray.findIdx? (fun e => Value.isInt k e.key) = ds.findIdx? (fun e => Value.isInt k e.key) := by simp
  rw [e0]
  cases hi : ds.findIdx? (fun e => Value.isInt k e.key) with
  | some i =>
    have q := hQ (Obj.mapDict (·.modify i fun e => { e with val := v })) (.inl ⟨i, hi, by simp [Obj.mapDict]⟩)
    exact wpAny_bind (wpAny_rule (wpAny_bind (wpAny_updateDict (s := { s with toks := s.toks + 1 }) g rfl (wpAny_point (wpAny_pure ⟨.none, rfl, wpAny_pure q⟩)))))
  | none =>
    have q := hQ (Obj.mapDictKeys (·.push ⟨hashInt k, .int k t, v⟩)) (.inr ⟨hi, by simp [Obj.mapDictKeys]⟩)
    exact wpAny_bind (wpAny_rule (wpAny_updateDictKeys (hz := by simpa using hz) (s := { s with toks := s.toks + 1 }) g rfl (wpAny_pure ⟨.none, rfl, wpAny_pure q⟩)))

theorem setItem_snd {v i w : AV} {cv ci cw : Value} {Q : Unit → Shared → Prop} (S : SR Z ex fs L m μ σ s.heap) (rv : VR μ v cv) (ri : VR μ i ci) (rw' : VR μ w cw)
    (h : Post Z ex fs L m (fun _ (_ : Unit) (_ : Unit) => True) μ s Q E (setItemM v i w σ)) : wpAny (model Z.prog Z.w) A (setItem cv ci cw) Q E s := by
  unfold setItemM at h
  split at h
  · obtain ⟨a, ha, rfl⟩ := rv
    split at h
    · rename_i xs k hn
      obtain ⟨t, rfl⟩ := ri
      obtain ⟨vs, c, g, r, hsz, z⟩ := S.listAt hn ha
      split at h
      · rename_i hj
        simp only [Bool.and_eq_true, decide_eq_true_eq] at hj
        rw [lim_small] at z
        refine ki_setAt g hj.1 (by omega) (by omega) ?_
        refine h.ok (tk := s.toks) (S.seq ha g (fun x => x.setIfInBounds k.toNat cw) ?_ (by simp [lim_small]; omega)) trivial
        rw [Array.toList_setIfInBounds]
        exact All2.set r k.toNat rw'
      · exact h.elim
    · rename_i es k hn
      obtain ⟨t, rfl⟩ := ri
      split at h
      · rename_i hlt
        obtain ⟨ob, g, r⟩ := S.at' hn ha
        obtain ⟨z, ds, c, rfl, r⟩ := r
        refine setItem_int (w := Z.w) g (dictKeys r) (by rw [← r.length]; have := lim_line; have := z.1; omega) fun f hf => ?_
        have hg : (s.heap.update a f).get? a = some (f (dictOf ds c)) := Heap.get?_update_self f g (by rcases hf with ⟨i, _, hf⟩ | ⟨_, hf⟩ <;> rw [hf] <;> rfl)
        rcases hf with ⟨i, hi, hf⟩ | ⟨hi, hf⟩
        · rw [hf] at hg
          exact h.ok (tk := s.toks + 1) (S.update ha (Heap.SameBut.update ..) hg ⟨⟨Nat.le_trans putKey_len (by omega), putKey_nodup z.2⟩, _, _, rfl, put_hit r rw' hi⟩) trivial
        · rw [hf] at hg
          exact h.ok (tk := s.toks + 1) (S.update ha (Heap.SameBut.update ..) hg ⟨⟨Nat.le_trans putKey_len (by omega), putKey_nodup z.2⟩, _, _, rfl, put_new r rw' hi⟩) trivial
      · exact h.elim
    · rename_i es hn
      obtain ⟨ob, _, r⟩ := S.at' hn ha
      exact r.elim
    · exact h.elim
  · exact h.elim

end
end Mini

end

section
set_option autoImplicit false
namespace Mini
open PySem PySem.W PySem.Calls PyProof PyProof.Rows PyProof.V PySem.Spec PySem.SeqAt

/-! ## the sort asks of its own places alone -/
inductive Asks (n : Nat) {α : Type} (P : α → Prop) : KasT α → Prop
  | ret {a : α} : P a → Asks n P (.ret a)
  | ask {i j : Nat} {k : Bool → KasT α} : i < n → j < n → (∀ b, Asks n P (k b)) → Asks n P (.ask i j k)
theorem Asks.bind {n : Nat} {α β : Type} {P : α → Prop} {R : β → Prop} {t : KasT α} {f : α → KasT β} (h : Asks n P t) (hf : ∀ a, P a → Asks n R (f a)) : Asks n R (t.bind f) := by
  induction h with
  | ret p => exact hf _ p
  | ask hi hj _ ih => exact .ask hi hj ih
theorem Asks.imp {n : Nat} {α : Type} {P R : α → Prop} {t : KasT α} (h : Asks n P t) (hf : ∀ a, P a → R a) : Asks n R t := by
  induction h with
  | ret p => exact .ret (hf _ p)
  | ask hi hj _ ih => exact .ask hi hj ih

def PR (n : Nat) (p : Array Nat) : Prop := p.Perm (List.range n).toArray
theorem PR.lt {n : Nat} {p : Array Nat} (h : PR n p) (hn : 0 < n) (i : Nat) : p.getD i 0 < n := by
  unfold Array.getD
  split
  · rename_i hi
    have : p[i] ∈ (List.range n).toArray := h.mem_iff.mp (Array.getElem_mem hi)
    simpa using this
  · exact hn
theorem PR.rev {n : Nat} {p : Array Nat} (h : PR n p) (i j : Nat) : PR n (kas_rev p i j) := (mirror_perm _ _ _ _).trans h
theorem PR.bub {n : Nat} {p : Array Nat} (h : PR n p) (i j : Nat) : PR n (bubble p i j) := (bubble_perm _ _ _).trans h

section
variable {n : Nat} (hn : 0 < n)
include hn
theorem asks_asc {p : Array Nat} (h : PR n p) : ∀ f k, Asks n (fun _ => True) (kas_asc p f k)
  | 0, _ => .ret trivial
  | f + 1, k => .ask (h.lt hn _) (h.lt hn _) fun b => by
    split
    · exact .ret trivial
    · exact asks_asc h f (k + 1)
theorem asks_desc : ∀ f (p : Array Nat) k q, PR n p → Asks n (fun r => PR n r.1) (kas_desc f p k q)
  | 0, _, _, _, h => .ret h
  | f + 1, p, k, q, h => .ask (h.lt hn _) (h.lt hn _) fun b => by
    split
    · split
      · exact asks_desc f _ _ _ (h.rev _ _)
      · exact asks_desc f _ _ _ h
    · refine .ask (h.lt hn _) (h.lt hn _) fun d => ?_
      split
      · exact .ret h
      · exact asks_desc f _ _ _ h
theorem asks_tail3 {p : Array Nat} (h : PR n p) (a b : Nat) : Asks n (fun r => PR n r.2) (kas_tail3 a b p) :=
  (asks_asc hn (h.rev _ _) _ _).bind fun _ _ => .ret (h.rev _ _)
theorem asks_descPart {p : Array Nat} (h : PR n p) (a b : Nat) : Asks n (fun r => PR n r.2) (kas_descPart a b p) :=
  (asks_desc hn _ _ _ _ h).bind fun r hr => by
    split
    · exact asks_tail3 hn (hr.rev _ _) _ _
    · exact asks_tail3 hn hr _ _
theorem asks_count {p : Array Nat} (h : PR n p) (b : Nat) : Asks n (fun r => PR n r.2) (kas_count b p) :=
  (asks_asc hn h _ _).bind fun r _ => by
    split
    · exact .ret h
    · split
      · refine .ask (h.lt hn _) (h.lt hn _) fun c => ?_
        split
        · exact .ret h
        · exact asks_descPart hn (h.rev _ _) _ _
      · exact asks_descPart hn h _ _
theorem asks_place {p : Array Nat} (h : PR n p) (k : Nat) : ∀ f l r, Asks n (fun _ => True) (kas_place p k f l r)
  | 0, _, _ => .ret trivial
  | f + 1, l, r => by
    unfold kas_place
    split
    · exact .ret trivial
    · refine .ask (h.lt hn _) (h.lt hn _) fun c => ?_
      split
      · exact asks_place h k f _ _
      · exact asks_place h k f _ _
theorem asks_bin : ∀ f (p : Array Nat) k, PR n p → Asks n (PR n) (kas_bin f p k)
  | 0, _, _, h => .ret h
  | f + 1, p, k, h => (asks_place hn h k _ _ _).bind fun l _ => asks_bin f _ _ (h.bub _ _)
theorem asks_sort : Asks n (PR n) (kas_sort n) := (asks_count hn (Array.Perm.refl _) n).bind fun r hr => by
  split
  · exact asks_bin hn _ _ _ hr
  · exact .ret hr
end

theorem kas_pure {n : Nat} {α : Type} {P : α → Prop} {cmp : Nat → Nat → (Bool → Shared → Prop) → Shared → Prop} {lt : Nat → Nat → Bool} {s : Shared}
    (hc : ∀ i j, i < n → j < n → ∀ (C : Bool → Shared → Prop) tk, (∀ tk', C (lt i j) { s with toks := tk' }) → cmp i j C { s with toks := tk }) {t : KasT α} (h : Asks n P t) :
    ∀ (Q : α → Shared → Prop) tk, (∀ tk', Q (kasRun lt t) { s with toks := tk' }) → t.kasWp cmp Q { s with toks := tk } := by
  induction h with
  | ret p => exact fun Q tk hq => hq tk
  | ask hi hj _ ih => exact fun Q tk hq => hc _ _ hi hj _ tk fun tk' => ih _ Q tk' hq

theorem kasRun_perm {n : Nat} {α : Type} {P : α → Prop} {lt : Nat → Nat → Bool} {t : KasT α} (h : Asks n P t) : P (kasRun lt t) := by
  induction h with
  | ret p => exact p
  | ask _ _ _ ih => exact ih _

section
variable {Z : Cx} {ex : List (Addr × Obj)} {fs : List (Addr × Data)} {L : Addr} {m : Str → Option Value} {μ : List Addr} {σ : Store} {s : Shared} {A : Around} {E : Value → Shared → Prop}

theorem All2.getDR {α β : Type} {R : α → β → Prop} {l : List α} {k : List β} (r : All2 R l k) {i : Nat} (h : i < l.length) (a : α) (b : β) : R (l.getD i a) (k.getD i b) := by
  obtain ⟨y, h1, h2⟩ := r.get (i := i) (a := l[i]) (by simp)
  rw [List.getD_eq_getElem?_getD, List.getD_eq_getElem?_getD, h1, List.getElem?_eq_getElem h]
  exact h2

def IntsR (is : List Int) (vs : List Value) : Prop := All2 (fun (i : Int) (v : Value) => ∃ t, v = .int i t) is vs
/-- a value that is a tuple of ints -/
def TupR (h : Heap) (k : List Int) (v : Value) : Prop := ∃ a vs c, v = .ref a ∧ h.get? a = some { cls := .type "tuple", data := .seq vs c } ∧ IntsR k vs.toList

theorem tups_of (S : SR Z ex fs L m μ σ s.heap) {xs : List AV} {ks : List (List Int)} {vs : List Value} (h : xs.mapM (tupInts σ) = some ks) (r : VRs μ xs vs) : All2 (TupR s.heap) ks vs := by
  induction r generalizing ks with
  | nil => cases h; exact .nil
  | @cons x v xs vs r _ ih =>
    obtain ⟨y, ys, rfl, hy, hr⟩ := mapM_cons_some h
    refine .cons ?_ (ih hr)
    unfold tupInts at hy
    split at hy
    · obtain ⟨a, ha, rfl⟩ := r
      split at hy
      · rename_i ts hn
        obtain ⟨ob, g, r⟩ := S.at' hn ha
        obtain ⟨_, us, c, rfl, r⟩ := r
        exact ⟨a, us, c, rfl, g, ints_of hy r⟩
      · cases hy
    · cases hy

theorem katLex_ints {b : Bool} {C : Bool → Shared → Prop} {s : Shared} : ∀ {k l : List Int} {vs us : List Value} (i : Nat), IntsR k vs → IntsR l us → k.length = l.length → C (lexLt k l) s → KatLex Z.prog Z.w A b false C (vs.zip us) i s
  | [], [], _, _, i, .nil, .nil, _, h => h
  | x :: k, y :: l, _, _, i, .cons ⟨t, hx⟩ r, .cons ⟨u, hy⟩ r', e, h => by
    subst hx; subst hy
    rw [List.zip_cons_cons]
    refine kat_cons (EqAt.int_int _ _ _ _ _ _ _ _ ?_)
    simp only [lexLt] at h
    unfold KatGo
    split at h
    · rename_i q
      rw [if_pos q]
      exact katLex_ints (i + 1) r r' (by simpa using e) h
    · rename_i q
      rw [if_neg q]
      cases hb : (b && i == 0) with
      | true => exact oneLt_int h
      | false => exact kat_one _ _ (PyProof.Rows.lt_int h)
  | [], _ :: _, _, _, _, _, _, e, _ => by simp at e
  | _ :: _, [], _, _, _, _, _, e, _ => by simp at e

/-- how the keys lie -/
theorem ask_keys (S : SR Z ex fs L m μ σ s.heap) {xs : List AV} {ks : List (List Int)} {vs : List Value} (h : sortKeys σ xs = some ks) (r : VRs μ xs vs) (h2 : 2 ≤ xs.length) {Q : Array Nat → Shared → Prop}
    (hQ : ∀ tk, Q (kasRun (fun i j => lexLt (ks.getD i []) (ks.getD j [])) (kas_sort vs.length)) { s with toks := tk }) :
    wpAny (model Z.prog Z.w) A (keyKind' vs.toArray) (fun κ s' => (kas_sort vs.length).kasWp (kas_ask Z.prog Z.w A κ vs) Q s') (fun _ _ => False) s := by
  have hlen := r.length
  have hn : 0 < vs.length := by omega
  unfold sortKeys at h
  split at h
  · rename_i is hi
    cases h
    have q := ints_of hi r
    have hl := q.length
    refine kas_kind (T := .type "int") (by omega) (fun v hv => ?_) (by decide) (by decide) ?_
    · obtain ⟨i, _, t, rfl⟩ := q.memR hv
      exact Looks.of_pure rfl
    · refine kas_pure (s := s) (fun i j hi hj C tk hC => ?_) (asks_sort hn) Q s.toks hQ
      obtain ⟨t, e1⟩ := q.getDR (i := i) (by omega) 0 .none
      obtain ⟨u, e2⟩ := q.getDR (i := j) (by omega) 0 .none
      unfold kas_ask
      rw [e1, e2, keyLt'_oneType]
      refine oneLt_int ?_
      have := hC tk
      have f1 : ∀ k, k < is.length → (is.map fun i => [i]).getD k [] = [is.getD k 0] := fun k hk => by
        simp [List.getD_eq_getElem?_getD, hk]
      rw [f1 i (by omega), f1 j (by omega)] at this
      simp only [lexLt] at this
      have f2 : (if (is.getD i 0 == is.getD j 0) = true then false else decide (is.getD i 0 < is.getD j 0)) = decide (is.getD i 0 < is.getD j 0) := by
        split
        · rename_i q
          have q := eq_of_beq q
          rw [q]; simp
        · rfl
      rw [f2] at this
      exact this
  · obtain ⟨ks', h1, h⟩ := Option.bind_eq_some_iff.mp h
    split at h
    · rename_i hall
      cases h
      have q := tups_of S h1 r
      have hl := q.length
      have hw : ∀ k ∈ ks, k.length = (ks.headD []).length ∧ k.length ≠ 0 := fun k hk => by
        have := List.all_eq_true.mp hall k hk
        simpa using this
      have hfs : ∃ fs, KatTups s.heap vs fs ∧ fs.length = vs.length ∧ ∀ v ∈ fs, ∃ i t, v = .int i t := by
        clear hQ r hlen hl h1 hn h
        have hne : ∀ k ∈ ks, k ≠ [] := fun k hk e => (hw k hk).2 (by rw [e]; rfl)
        clear hw hall
        induction q with
        | nil => exact ⟨[], trivial, rfl, fun _ h => by cases h⟩
        | @cons k v ks vs r _ ih =>
          obtain ⟨fs, a, b, c⟩ := ih fun k hk => hne k (.tail _ hk)
          obtain ⟨x, us, n, rfl, g, ri⟩ := r
          cases k with
          | nil => exact absurd rfl (hne [] (.head _))
          | cons i k =>
            obtain ⟨w, hw, ⟨t, rfl⟩⟩ := ri.get (i := 0) (a := i) rfl
            refine ⟨.int i t :: fs, KatTups.cons g rfl rfl (by rw [← Array.getElem?_toList]; exact hw) a, by simp [b], fun v hv => ?_⟩
            cases hv with
            | head => exact ⟨_, _, rfl⟩
            | tail _ hv => exact c v hv
      obtain ⟨fs', a, b, c⟩ := hfs
      refine kat_kind (T := .type "int") a (by omega) (fun v hv => ?_) (by decide) ?_
      · obtain ⟨i, t, rfl⟩ := c v hv
        exact Looks.of_pure rfl
      · refine kas_pure (s := s) (fun i j hi hj C tk hC => ?_) (asks_sort hn) Q s.toks hQ
        have r1 := q.getDR (i := i) (by omega) [] .none
        have r2 := q.getDR (i := j) (by omega) [] .none
        obtain ⟨x, us, n1, e1, g1, i1⟩ := r1
        obtain ⟨y, ws, n2, e2, g2, i2⟩ := r2
        have m1 : ks.getD i [] ∈ ks := by rw [List.getD_eq_getElem?_getD, List.getElem?_eq_getElem (by omega : i < ks.length)]; exact List.getElem_mem _
        have m2 : ks.getD j [] ∈ ks := by rw [List.getD_eq_getElem?_getD, List.getElem?_eq_getElem (by omega : j < ks.length)]; exact List.getElem_mem _
        have hle : (ks.getD i []).length = (ks.getD j []).length := by rw [(hw _ m1).1, (hw _ m2).1]
        unfold kas_ask
        rw [e1, e2]
        refine kat_lt (s := { s with toks := tk }) g1 rfl g2 rfl ?_
        have hs : decide (us.size < ws.size) = false := by
          have a1 := i1.length
          have a2 := i2.length
          simp only [Array.length_toList] at a1 a2
          exact decide_eq_false (by omega)
        rw [hs]
        exact katLex_ints 0 i1 i2 hle (hC tk)
    · cases h
end
end Mini

end

section
set_option autoImplicit false
namespace Mini
open PySem PySem.W PySem.Calls PyProof PyProof.Rows PyProof.V PySem.Spec PySem.SeqAt

section
variable {Z : Cx} {ex : List (Addr × Obj)} {fs : List (Addr × Data)} {L : Addr} {m : Str → Option Value} {μ : List Addr} {σ : Store} {s : Shared} {A : Around} {E : Value → Shared → Prop}

def ledgerBut (a : Addr) (l : List (Addr × Obj)) : List (Addr × Obj) := l.filter fun p => p.1 != a
theorem ledgerBut_ne {a : Addr} {l : List (Addr × Obj)} : ∀ p ∈ ledgerBut a l, p.1 ≠ a := fun p hp => by
  have := (List.mem_filter.mp hp).2
  simpa using this
theorem ledgerBut_mem {a : Addr} {l : List (Addr × Obj)} {p : Addr × Obj} (hp : p ∈ l) (hn : p.1 ≠ a) : p ∈ ledgerBut a l := List.mem_filter.mpr ⟨hp, by simpa using hn⟩

/-- every object but one stands as it stood -/
theorem SR.ofNewsBut {h h' : Heap} (S : SR Z ex fs L m μ σ h) {n : Nat} {a : Addr} {o' : AO} {ob' : Obj} (ha : μ[n]? = some a) (F : Fr Z.base L h' m) (N : ∀ p ∈ ledgerBut a (ledger ex fs μ h), h'.get? p.1 = some p.2)
    (hg : h'.get? a = some ob') (r : OR μ o' ob') : SR Z ex fs L m μ (σ.set n o') h' where
  fr := F
  ex := fun p hp => by
    obtain ⟨_, b, c, d⟩ := S.ex p hp
    exact ⟨N p (ledgerBut_mem (List.mem_append_right _ (List.mem_append_left _ hp)) fun (q : p.1 = a) => d (q ▸ mem_of_at ha)), b, c, d⟩
  fs := fun p hp => by
    obtain ⟨⟨o, x, y⟩, b, c, d⟩ := S.fs p hp
    have := N (p.1, (h.get? p.1).getD default) (ledgerBut_mem (List.mem_append_right _ (List.mem_append_right _ (List.mem_map.mpr ⟨p.1, List.mem_map.mpr ⟨p, hp, rfl⟩, rfl⟩))) fun (q : p.1 = a) => d (q ▸ mem_of_at ha))
    rw [x] at this
    exact ⟨⟨o, this, y⟩, b, c, d⟩
  len := by simp [S.len]
  nodup := S.nodup
  own := S.own
  obj := fun k o b e hb => by
    rw [List.getElem?_set] at e
    by_cases hk : n = k
    · subst hk
      have : b = a := Option.some.inj (hb.symm.trans ha)
      subst this
      split at e
      · split at e
        · cases e; exact ⟨ob', hg, r⟩
        · cases e
      · rename_i q; exact absurd rfl q
    · rw [if_neg hk] at e
      obtain ⟨ob, x, y⟩ := S.obj k o b e hb
      have := N (b, (h.get? b).getD default) (ledgerBut_mem (List.mem_append_left _ (List.mem_map.mpr ⟨b, mem_of_at hb, rfl⟩)) fun (q : b = a) => hk (S.inj ha (q ▸ hb)))
      rw [x] at this
      exact ⟨ob, this, y⟩

theorem tupInts_set {n : Nat} {xs ys : List AV} (hn : σ[n]? = some (.list xs)) (v : AV) : tupInts (σ.set n (.list ys)) v = tupInts σ v := by
  cases v with
  | obj k =>
    simp only [tupInts]
    rw [List.getElem?_set]
    by_cases hk : n = k
    · subst hk
      have hlt : n < σ.length := (List.getElem?_eq_some_iff.mp hn).1
      rw [if_pos rfl, if_pos hlt, hn]
    · rw [if_neg hk]
  | _ => rfl
theorem sortKeys_set {n : Nat} {xs ys zs : List AV} (hn : σ[n]? = some (.list xs)) : sortKeys (σ.set n (.list ys)) zs = sortKeys σ zs := by
  unfold sortKeys
  have : (tupInts (σ.set n (.list ys))) = tupInts σ := funext fun v => tupInts_set hn v
  rw [this]

theorem sortIdx_lt {n : Nat} {lt : Nat → Nat → Bool} : ∀ i ∈ sortIdx n lt, i < n := by
  intro i hi
  unfold sortIdx at hi
  split at hi
  · simpa using hi
  · rename_i h2
    have p := kasRun_perm (lt := lt) (asks_sort (n := n) (by omega))
    have : i ∈ (List.range n).toArray := p.mem_iff.mp (Array.mem_toList_iff.mp hi)
    simpa using this
theorem sortIdx_len {n : Nat} {lt : Nat → Nat → Bool} : (sortIdx n lt).length = n := by
  unfold sortIdx
  split
  · simp
  · rename_i h2
    have p := kasRun_perm (lt := lt) (asks_sort (n := n) (by omega))
    rw [Array.length_toList, p.size_eq]; simp
theorem picked {xs : List AV} {vs : List Value} (r : VRs μ xs vs) : ∀ (l : List Nat), (∀ i ∈ l, i < xs.length) → VRs μ (l.map fun i => xs.getD i .none) (l.map fun i => vs.getD i .none)
  | [], _ => .nil
  | i :: l, h => .cons (r.getDR (h i (.head _)) _ _) (picked r l fun j hj => h j (.tail _ hj))

theorem sort_snd {n : Nat} {xs ys : List AV} {a : Addr} {Q : Value → Shared → Prop} (S : SR Z ex fs L m μ σ s.heap) (hn : σ[n]? = some (.list xs)) (ha : μ[n]? = some a) (e : sortA σ xs = some ys)
    (h : Post Z ex fs L m VR μ s Q E (.ok .none (σ.set n (.list ys)))) : wpAny (model Z.prog Z.w) A (call (.builtin "list.sort") [.ref a]) Q E s := by
  obtain ⟨vs, c, g, r, hsz, z⟩ := S.listAt hn ha
  unfold sortA at e
  split at e
  · rename_i h64
    obtain ⟨ks, hk, rfl⟩ := Option.map_eq_some_iff.mp e
    have hvl : vs.toList.length = xs.length := by simpa using hsz
    by_cases h2 : 2 ≤ xs.length
    · have N : News Z.base L s.heap ((a, listOf vs c) :: ledgerBut a (ledger ex fs μ s.heap)) := fun p hp => by
        rcases List.mem_cons.mp hp with rfl | hp
        · exact ⟨g, (S.own a (mem_of_at ha)).1, (S.own a (mem_of_at ha)).2.1⟩
        · exact S.news p (List.mem_filter.mp hp).1
      refine kat_lsort S.fr N (UpdF.head ledgerBut_ne) rfl (by omega) (by omega) fun e1 h' F' N' => ?_
      have S' : SR Z ex fs L m μ (σ.set n (.list [])) h' := S.ofNewsBut ha F' (fun p hp => (N' p (.tail _ hp)).1) (N' _ (.head _)).1 ⟨Nat.zero_le _, _, _, rfl, .nil⟩
      refine ask_keys (s := { s with heap := h' }) S' (xs := xs) (ks := ks) ?_ r h2 fun tk => ?_
      · rw [sortKeys_set hn]; exact hk
      · refine KasFin.intro F' N' (UpdF.head ledgerBut_ne) fun h'' c' F'' N'' => ?_
        have hidx : ∀ lt : Nat → Nat → Bool, sortIdx xs.length lt = (kasRun lt (kas_sort xs.length)).toList := fun lt => by
          unfold sortIdx; rw [if_neg (by omega)]
        refine h.ok (tk := tk) (S.ofNewsBut ha F'' (fun p hp => (N'' p (.tail _ hp)).1) (N'' _ (.head _)).1 ⟨by rw [List.length_map, sortIdx_len]; exact z, _, _, rfl, ?_⟩) rfl
        rw [hidx, hvl]
        have := picked r (kasRun (fun i j => lexLt (ks.getD i []) (ks.getD j [])) (kas_sort xs.length)).toList (by rw [← hidx]; exact sortIdx_lt)
        simpa using this
    · have hrange : ∀ lt : Nat → Nat → Bool, (sortIdx xs.length lt).map (fun i => xs.getD i .none) = xs := fun lt => by
        unfold sortIdx
        rw [if_pos (by omega)]
        match xs, h2 with
        | [], _ => rfl
        | [x], _ => rfl
        | _ :: _ :: _, h2 => simp at h2
      rw [hrange] at h
      obtain ⟨l⟩ := vs
      have ho : s.heap.get? a = some (seqObj "list" l.toArray c) := g
      refine wpAny_call_entry slot_list_sort ⟨_, g, rfl⟩ entry_list_sort ?_ (args_list_sort _)
      rw [list_sort_plain]
      refine wpAny_bind (listItems_at ho rfl ?_)
      have hz' : l.toArray.size ≤ sizeLine := by have := lim_line; simp at hsz ⊢; omega
      refine wpAny_bind (listUpdate_at ho rfl ?_ hz' (Nat.zero_le _))
      obtain ⟨e1, ho1⟩ : ∃ e1, (s.heap.update a (Obj.mapSeq fun _ => #[])).get? a = some (seqObj "list" #[] e1) := ⟨_, get?_update_seq ho (fun _ => #[])⟩
      refine wpAny_bind (seqEpoch_at ho1 rfl ?_)
      refine wpAny_bind (wpAny_newTuple ?_ (by simpa using hz'))
      refine wpAny_bind (wpAny_newList ?_ (Nat.zero_le _))
      refine wpAny_holding ?_
      have s1 : SR Z ex fs L m μ (σ.set n (.list [])) (s.heap.update a (Obj.mapSeq fun _ => #[])) := S.seq ha g (fun _ => #[]) .nil (Nat.zero_le _)
      have s2 := (s1.push (seqObj "tuple" l.toArray 0)).push (seqObj "list" #[] 0)
      have hlt : a < (s.heap.update a (Obj.mapSeq fun _ => #[])).objs.size := Heap.lt_size ho1
      have ho6 := Heap.get?_push_of_some (seqObj "list" #[] 0) (Heap.get?_push_of_some (seqObj "tuple" l.toArray 0) ho1)
      show wpAny _ _ _ _ _ { s with heap := ((s.heap.update a (Obj.mapSeq fun _ => #[])).push (seqObj "tuple" l.toArray 0)).push (seqObj "list" #[] 0) }
      dsimp only
      have hn2 : l.toArray.size < 2 := by simp at hsz ⊢; omega
      rw [if_pos hn2, if_pos hn2]
      refine wpAny_bind (wpAny_pure ?_)
      rw [StateT.run_pure]
      refine wpAny_bind (wpAny_pure ?_)
      dsimp only
      refine wpAny_bind (seqEpoch_at ho6 rfl ?_)
      have hout : (arrOf (SortSt.mk' general' (l.toArray.zip l.toArray) #[] 7 none)).map (·.2) = l.toArray := by
        show (l.toArray.zip l.toArray).map (·.2) = _
        apply Array.toList_inj.mp
        simp [List.map_snd_zip]
      rw [hout]
      refine wpAny_bind (listUpdate_at ho6 rfl ?_ (Nat.zero_le _) (Nat.le_succ_of_le hz'))
      simp only [bne_self_eq_false, Bool.false_eq_true, if_false]
      refine wpAny_pure ⟨_, rfl, ?_⟩
      have s3 := s2.seq (s := { s with heap := ((s.heap.update a (Obj.mapSeq fun _ => #[])).push (seqObj "tuple" l.toArray 0)).push (seqObj "list" #[] 0) }) ha ho6 (fun _ => l.toArray) (xs' := xs) r z
      rw [List.set_set] at s3
      exact h.ok (tk := s.toks) s3 rfl
  · cases e
end
end Mini

end

section
set_option autoImplicit false
namespace Mini
open PySem PySem.W PySem.Calls PyProof PyProof.Rows PyProof.V PySem.Spec PySem.SeqAt

section
variable {Z : Cx} {ex : List (Addr × Obj)} {fs : List (Addr × Data)} {L : Addr} {m : Str → Option Value} {μ : List Addr} {σ : Store} {s : Shared} {A : Around} {E : Value → Shared → Prop}

theorem listMeth_snd {X : IX} {n : Nat} {xs : List AV} {x : Str} {args : List AV} {cargs : List Value} {a : Addr} {Q : Value → Shared → Prop} (S : SR Z ex fs L m μ σ s.heap) (hn : σ[n]? = some (.list xs)) (ha : μ[n]? = some a)
    (ra : VRs μ args cargs) (h : Post Z ex fs L m VR μ s Q E (listMeth n xs x args σ X)) :
    ∃ id, Slot "list" x id ∧ typeOf (.builtin id) = pure (.type "method_descriptor") ∧ wpAny (model Z.prog Z.w) A (call (.builtin id) (.ref a :: cargs)) Q E s := by
  obtain ⟨vs, c, g, r, hsz, z⟩ := S.listAt hn ha
  have hz : vs.size ≤ sizeLine := by have := lim_line; omega
  have hT : s.TypeIs (.ref a) "list" := ⟨_, g, rfl⟩
  unfold listMeth at h
  split at h
  · rename_i e
    obtain rfl := eq_of_beq e
    refine ⟨_, PySem.F.slot_list_append, PySem.F.type_list_append, ?_⟩
    split at h
    · rename_i v
      split at h
      · rename_i hl
        cases ra with
        | cons rv rr =>
          cases rr
          refine append_at g (fun h' hs hg => ?_) hz
          exact h.ok (tk := s.toks) (S.update ha hs hg ⟨by simp; omega, _, _, rfl, by simpa using All2.append r (.cons rv .nil)⟩) rfl
      · exact h.elim
    · exact h.elim
  split at h
  · rename_i e
    obtain rfl := eq_of_beq e
    refine ⟨_, PySem.F.slot_list_pop, PySem.F.type_list_pop, ?_⟩
    split at h
    · rename_i i
      cases ra with
      | cons rv rr =>
        cases rr
        obtain ⟨t, rfl⟩ := rv
        split at h
        · unfold Post ExcPost at h; exact h.elim
        · split at h
          · rename_i k hk
            obtain ⟨hk1, hp⟩ := place_pos hk
            split at h
            · rename_i v hv
              obtain ⟨cv, h3, h4⟩ := r.get hv
              rw [lim_small] at z
              refine call_meets PySem.F.slot_list_pop hT PySem.F.entry_list_pop (PySem.F.args_list_pop_2 _ _) (PySem.MeetsSeq.list_pop_at a vs c i t k cv ?_ ?_ (by rw [← Array.getElem?_toList]; exact h3) hz) ⟨g, ?_⟩
              · unfold Builtin.List.listFitsIndex
                rw [Bool.and_eq_true]
                exact ⟨decide_eq_true (by omega), decide_eq_true (by omega)⟩
              · unfold seqIndex?
                rcases hp with ⟨p, q⟩ | ⟨p, p', q⟩
                · have h0 : ¬ i < 0 := by omega
                  simp only [h0, if_false, hsz]
                  rw [if_pos (by simp; omega), q]
                · simp only [p, if_true, hsz]
                  rw [if_pos (by simp; omega), q]
              · refine h.ok (tk := s.toks) (S.seq ha g (fun xs => xs.eraseIdxIfInBounds k) ?_ (by simp [List.length_eraseIdx, lim_small]; split <;> omega)) h4
                rw [Array.toList_eraseIdxIfInBounds]
                exact All2.eraseIdx r k
            · exact h.elim
          · exact h.elim
    · exact h.elim
  split at h
  · rename_i e
    obtain rfl := eq_of_beq e
    refine ⟨_, PySem.F.slot_list_insert, PySem.F.type_list_insert, ?_⟩
    split at h
    · rename_i i v
      cases ra with
      | cons ri rr =>
        cases rr with
        | cons rv rr =>
          cases rr
          obtain ⟨t, rfl⟩ := ri
          split at h
          · rename_i hc
            simp only [Bool.and_eq_true, decide_eq_true_eq] at hc
            obtain ⟨⟨h0, h1⟩, h2⟩ := hc
            rw [lim_small] at h2
            refine call_meets PySem.F.slot_list_insert hT PySem.F.entry_list_insert (PySem.F.args_list_insert_3 _ _ _) (PySem.AutoSeq1.list_insert_list_int_val_1 a vs c i t _ ?_ hz) ⟨g, ?_⟩
            · unfold Builtin.List.listFitsIndex
              rw [decide_eq_true (by omega), decide_eq_true (by omega)]
              decide
            · refine h.ok (tk := s.toks) (S.seq ha g _ ?_ (by simp [lim_small]; omega)) rfl
              have e1 : ¬ i < 0 := by omega
              have e2 : min i.toNat vs.size = i.toNat := by omega
              dsimp only
              rw [if_neg e1, e2]
              have := All2.append (All2.take r i.toNat) (All2.cons rv (All2.drop r i.toNat))
              have e3 : List.take (xs.length - i.toNat) (List.drop i.toNat vs.toList) = List.drop i.toNat vs.toList := List.take_of_length_le (by simp; omega)
              simpa [Array.toList_extract, List.extract_eq_take_drop, hsz, e3] using this
          · exact h.elim
    · exact h.elim
  split at h
  · rename_i e
    obtain rfl := eq_of_beq e
    refine ⟨_, PySem.F.slot_list_extend, PySem.F.type_list_extend, ?_⟩
    split at h
    · rename_i k
      cases ra with
      | cons rv rr =>
        cases rr
        obtain ⟨b, hb, rfl⟩ := rv
        split at h
        · rename_i ys hk
          split at h
          · rename_i hc
            simp only [Bool.and_eq_true, decide_eq_true_eq] at hc
            obtain ⟨us, c', g', r', hsz', z'⟩ := S.listAt hk hb
            refine call_meets PySem.F.slot_list_extend hT PySem.F.entry_list_extend (PySem.F.args_list_extend_2 _ _) (PySem.AutoSeq1.list_extend_list_list_0 a vs c b us c' (extend_door ?_) hz ?_) ⟨g, g', ?_⟩
            · have := lim_line; omega
            · have := lim_line; omega
            · refine h.ok (tk := s.toks) (S.seq ha g _ ?_ (by simp; omega)) rfl
              simpa using All2.append r r'
          · exact h.elim
        · exact h.elim
    · exact h.elim
  split at h
  · rename_i e
    obtain rfl := eq_of_beq e
    refine ⟨_, PySem.F.slot_list_reverse, PySem.F.type_list_reverse, ?_⟩
    split at h
    · cases ra
      refine call_meets PySem.F.slot_list_reverse hT PySem.F.entry_list_reverse (PySem.F.args_list_reverse_1 _) (AutoSeq1.list_reverse_list_0 a vs c hz) ⟨g, ?_⟩
      refine h.ok (tk := s.toks) (S.seq ha g _ ?_ (by simpa using z)) rfl
      simpa using All2.reverse r
    · exact h.elim
  split at h
  · rename_i e
    obtain rfl := eq_of_beq e
    refine ⟨_, PySem.F.slot_list_sort, PySem.F.type_list_sort, ?_⟩
    split at h
    · cases ra
      obtain ⟨ys, hy, h⟩ := h.lift
      exact sort_snd S hn ha hy h
    · exact h.elim
  split at h
  · rename_i e
    obtain rfl := eq_of_beq e
    refine ⟨_, PySem.F.slot_list_index, PySem.F.type_list_index, ?_⟩
    split at h
    · cases ra with
      | cons rv rr =>
        cases rr
        obtain ⟨j, hj, h2⟩ := h.lift
        clear h
        unfold idxV at hj
        split at hj
        · rename_i i
          obtain ⟨t, rfl⟩ := rv
          obtain ⟨is, hi, hj⟩ := Option.bind_eq_some_iff.mp hj
          have q := ints_of hi r
          have hl := q.length
          obtain ⟨hj1, hj2, hj3⟩ := List.findIdx?_eq_some_iff_getElem.mp hj
          have hvl : vs.toList.length = vs.size := Array.length_toList
          have at_ : ∀ k (h1 : k < is.length) (h2 : k < vs.size), hitI i vs[k] = (is[k] == i) := fun k h1 h2 => by
            obtain ⟨w, h3, ⟨u, h4⟩⟩ := q.get (i := k) (a := is[k]) (by simp)
            have : vs[k] = w := by simpa [h2] using h3
            rw [this, h4]; rfl
          rw [lim_small] at z
          have q' : Q (.int j s.toks) { s with toks := s.toks + 1 } := h2.ok' S ⟨_, rfl⟩
          refine call_meets PySem.F.slot_list_index hT PySem.F.entry_list_index (PySem.F.args_list_index_2 _ _) (PySem.MeetsSeq.list_index a vs c (.int i t) (hitI i) (fun y hy => ?_) j (by omega) (by omega) ?_ fun k h1 h2 => ?_) ⟨g, q'⟩
          · obtain ⟨k, _, u, rfl⟩ := q.memR (b := y) (by simpa using hy)
            exact PySem.MeetsSeq.EqGives.int _ _ _ _
          · rw [at_ j hj1 (by omega)]; simpa using hj2
          · rw [at_ k (by omega) h1]; simpa using hj3 k h2
        · cases hj
    · exact h.elim
  exact h.elim
end
end Mini

end

section
set_option autoImplicit false
namespace Mini
open PySem PySem.W PySem.Calls PyProof PyProof.Rows PyProof.V PySem.Spec PySem.SeqAt

structure Ok (Z : Cx) (G : Str → Option AV) : Prop where
  kin : Z.K.In Z.base
  nolimit : Z.base.NoLimit
  glob : ∀ x v, G x = some v → ∃ cv mg mb, v = .fix cv ∧ Z.base.Ns mainGlobals mg ∧ (mg x = some cv ∨ (mg x = none ∧ Z.base.Ns builtinsNs mb ∧ mb x = some cv))

structure FE (G : Str → Option AV) (S : Sc) (env : Env) (L : Addr) (cl : List (Str × Addr)) : Prop where
  kind : env.scope.kind = .function
  glo : env.globals = mainGlobals
  bui : env.builtins = builtinsNs
  loc : env.locals = L
  cel : env.cells = cl
  sgl : S.glob = G
  knd : ∀ x, env.kindOf x = S.kind x ∨ (S.kind x = some .free ∧ env.kindOf x = some .cell)
  has : ∀ x, S.kind x = some .cell ∨ S.kind x = some .free → (cl.lookup x).isSome = true

section
variable {Z : Cx} {G : Str → Option AV} {Sc : Sc} {env : Env} {cl : List (Str × Addr)} {γ : List (Str × Nat)} {ρ : Loc} {ex : List (Addr × Obj)} {fs : List (Addr × Data)} {L : Addr} {m : Str → Option Value} {μ : List Addr} {σ : Store} {s : Shared} {A : Around} {E : Value → Shared → Prop}

theorem kind_ne {k : NameKind} (e : FE G Sc env L cl) {x : Str} (h : Sc.kind x = some k) (hk : k ≠ .free) : env.kindOf x = some k := by
  rcases e.knd x with q | ⟨q, _⟩
  · rw [q, h]
  · rw [h] at q; cases q; exact absurd rfl hk

theorem cell_at (S : SR Z ex fs L m μ σ s.heap) (gr : GRel μ γ cl) {x : Str} {v : AV} (hs : (cl.lookup x).isSome = true) (h : celM γ x σ = some v) : ∃ c cv, cl.lookup x = some c ∧ s.heap.IsCell c (some cv) ∧ VR μ v cv := by
  unfold celM at h
  obtain ⟨n, hn, h⟩ := Option.bind_eq_some_iff.mp h
  obtain ⟨c, hc⟩ := Option.isSome_iff_exists.mp hs
  have hμ := gr x n c hn hc
  split at h
  · rename_i v' hσ
    subst h
    obtain ⟨ob, g, r⟩ := S.at' hσ hμ
    obtain ⟨cv, hd, r⟩ := r
    cases cv with
    | none => exact r.elim
    | some cv => exact ⟨c, cv, hc, ⟨ob, g, hd⟩, r⟩
  · cases h

theorem name_snd {X : IX} (O : Ok Z G) (e : FE G Sc env L cl) (S : SR Z ex fs L m μ σ s.heap) (fr : FRel μ ρ m) (gr : GRel μ γ cl) {x : Str} {pos : Pos} {ce : CE} {Q : Value → Shared → Prop} (c : cName Sc x = some ce)
    (h : Post Z ex fs L m VR μ s Q E (evalE X γ ρ ce σ)) : wpAny (model Z.prog Z.w) A (eval (.Name x pos) env) Q E s := by
  unfold cName at c
  split at c
  · cases c
  · rename_i hd
    have hd1 : (x == ("__debug__" : Str)) = false := by
      unfold isDebug at hd; rw [Bool.or_eq_true, not_or] at hd; simpa using hd.1
    have hd2 : (x == ("__classdict__" : Str)) = false := by
      unfold isDebug at hd; rw [Bool.or_eq_true, not_or] at hd; simpa using hd.2
    split at c
    · rename_i hk
      cases c
      rw [evalE] at h
      cases hl : ρ.lookup x with
      | none => rw [hl] at h; exact h.elim
      | some v =>
        rw [hl] at h
        obtain ⟨cv, hm, r⟩ := fr x v hl
        exact wpAny_Name (wpAny_loadName_local e.kind (kind_ne e hk (by decide)) (e.loc ▸ S.fr.ns) hm (Post.ok0 h S r)) hd1
    · rename_i hk
      cases c
      rw [evalE] at h
      cases hl : celM γ x σ with
      | none => rw [hl] at h; exact h.elim
      | some v =>
        rw [hl] at h
        obtain ⟨c, cv, hc, ic, r⟩ := cell_at S gr (e.has x (.inl hk)) hl
        exact wpAny_Name (wpAny_loadName_cell e.kind (kind_ne e hk (by decide)) (e.cel ▸ hc) ic (Post.ok0 h S r)) hd1
    · rename_i hk
      cases c
      rw [evalE] at h
      cases hl : celM γ x σ with
      | none => rw [hl] at h; exact h.elim
      | some v =>
        rw [hl] at h
        obtain ⟨c, cv, hc, ic, r⟩ := cell_at S gr (e.has x (.inr hk)) hl
        rcases e.knd x with q | ⟨_, q⟩
        · rw [hk] at q
          exact wpAny_Name (wpAny_loadName_free e.kind q (e.cel ▸ hc) ic (Post.ok0 h S r) hd2) hd1
        · exact wpAny_Name (wpAny_loadName_cell e.kind q (e.cel ▸ hc) ic (Post.ok0 h S r)) hd1
    · rename_i hk
      obtain ⟨v, hv, rfl⟩ := Option.map_eq_some_iff.mp c
      rw [e.sgl] at hv
      obtain ⟨cv, mg, mb, rfl, hg, hx⟩ := O.glob x v hv
      rw [evalE] at h
      have q := Post.ok0 h S (show VR μ (.fix cv) cv from rfl)
      refine Name_function_global e.kind (kind_ne e hk (by decide)) ?_ hd1
      rcases hx with hx | ⟨hx, hb, hx'⟩
      · exact loadGlobal_global (e.glo ▸ hg.keeps S.fr.keep) hx q
      · exact loadGlobal_builtin (e.glo ▸ hg.keeps S.fr.keep) hx (e.bui ▸ hb.keeps S.fr.keep) hx' q
    · cases c

theorem lookup_putAttr {x y : Str} {v : AV} : ∀ {ρ : Loc}, (putAttr x v ρ).lookup y = if y = x then some v else ρ.lookup y
  | [] => by
    simp only [putAttr, List.lookup_cons, List.lookup_nil]
    cases h : y == x with
    | true => have := eq_of_beq h; simp [this]
    | false => have : y ≠ x := by simpa using h
               simp [this]
  | p :: r => by
    obtain ⟨k, w⟩ := p
    simp only [putAttr]
    cases hk : k == x with
    | true =>
      obtain rfl := eq_of_beq hk
      simp only [if_true, List.lookup_cons]
      cases h : y == k with
      | true => have := eq_of_beq h; simp [this]
      | false => have : y ≠ k := by simpa using h
                 simp [this]
    | false =>
      simp only [Bool.false_eq_true, if_false, List.lookup_cons]
      cases h : y == k with
      | true =>
        obtain rfl := eq_of_beq h
        have : y ≠ x := by simpa using hk
        simp [this]
      | false => exact lookup_putAttr

theorem FRel.put {x : Str} {v : AV} {cv : Value} (h : FRel μ ρ m) (r : VR μ v cv) : FRel μ (putLoc x v ρ) (fun y => if y = x then some cv else m y) := by
  intro y w e
  unfold putLoc at e
  rw [lookup_putAttr] at e
  by_cases hy : y = x
  · rw [if_pos hy] at e; cases e; exact ⟨cv, by simp [hy], r⟩
  · rw [if_neg hy] at e; obtain ⟨cw, a, b⟩ := h y w e; exact ⟨cw, by simp [hy, a], b⟩

/-- what an assignment leaves behind: a frame and its locals -/
def PostL (Z : Cx) (ex : List (Addr × Obj)) (fs : List (Addr × Data)) (L : Addr) (μ : List Addr) (m₀ : Str → Option Value) (s : Shared) (Q : Unit → Shared → Prop) (E : Value → Shared → Prop) : RE Loc → Prop
  | .ok ρ' σ' => ∀ μ' m' h' tk, Pre μ μ' → SR Z ex fs L m' μ' σ' h' → FRel μ' ρ' m' → Q () { s with heap := h', toks := tk }
  | .exc k σ' => ExcPost Z ex fs L m₀ μ s E k σ'
  | .bad => False

theorem store_local (e : FE G Sc env L cl) (S : SR Z ex fs L m μ σ s.heap) (fr : FRel μ ρ m) {x : Str} {v : AV} {cv : Value} (hk : Sc.kind x = some .local) (r : VR μ v cv) {Q : Unit → Shared → Prop}
    (h : ∀ m' h' tk, SR Z ex fs L m' μ σ h' → FRel μ (putLoc x v ρ) m' → Q () { s with heap := h', toks := tk }) : wpAny (model Z.prog Z.w) A (storeName env x cv) Q E s :=
  wpAny_storeName_local (kind_ne e hk (by decide)) (e.loc ▸ S.fr.ns) (fun h' hn hs => by
      have hn' := e.loc ▸ hn
      have hs' := e.loc ▸ hs
      exact h _ h' _ (S.frame hn' hs') (fr.put r)) (by rw [e.kind]; rfl)

theorem store_cell (e : FE G Sc env L cl) (S : SR Z ex fs L m μ σ s.heap) (gr : GRel μ γ cl) {x : Str} {v : AV} {cv : Value} (hk : Sc.kind x = some .cell) (r : VR μ v cv) {Q : Unit → Shared → Prop} {E' : Value → Shared → Prop} {R : List Addr → Unit → Unit → Prop}
    (h : Post Z ex fs L m R μ s Q E' (setCelM γ x v σ)) (hR : ∀ μ, R μ () ()) : wpAny (model Z.prog Z.w) A (storeName env x cv) Q E s := by
  unfold setCelM at h
  split at h
  · rename_i n hn
    obtain ⟨c, hc⟩ := Option.isSome_iff_exists.mp (e.has x (.inl hk))
    have hμ := gr x n c hn hc
    split at h
    · rename_i v₀ hσ
      obtain ⟨ob, g, r'⟩ := S.at' hσ hμ
      obtain ⟨cv₀, hd, _⟩ := r'
      refine wpAny_storeName_cell e.kind (kind_ne e hk (by decide)) (e.cel ▸ hc) ⟨ob, g, hd⟩ fun h' hv hs => ?_
      obtain ⟨o', ho', hd'⟩ := hv
      exact h.ok (tk := s.toks) (S.update hμ hs ho' ⟨some cv, hd', r⟩) (hR _)
    · exact h.elim
  · exact h.elim
end
end Mini

end

section
set_option autoImplicit false
namespace Mini
open PySem PySem.W PySem.Calls PyProof PyProof.Rows PyProof.V PySem.Spec PySem.SeqAt

structure ClsOk (Z : Cx) (C : Addr) (ci : ClsI) : Prop where
  pg : ∀ x, plainGet Z.K C x = true
  hd : hasDictIn Z.K C = true
  sa : findIn Z.K (.ref C) "__setattr__" = some (some (.builtin "object.__setattr__"))
  po : plainOver Z.K C = true
  mak : makesIn Z.K C = true
  nf : notFirst Z.K C (.ref C) = true
  ini : findIn Z.K (.ref C) "__init__" = some (some (.ref ci.init))
  inf : isFn Z.K (.ref ci.init) = true
  attr : ∀ x, ci.attrs.contains x = true → findIn Z.K (.ref C) x = some none
  meth : ∀ x f, ci.meths.lookup x = some f → findIn Z.K (.ref C) x = some (some (.ref f)) ∧ isFn Z.K (.ref f) = true ∧ keepIn Z.K (.ref f) = true
  prop : ∀ x g t, ci.props.lookup x = some (g, t) → ∃ p rest, findIn Z.K (.ref C) x = some (some (.ref p)) ∧ specialIn Z.K (.ref p) "__get__" = some (some (.builtin "property.__get__")) ∧ takesIn Z.K (.ref p) = some true ∧ typeIn Z.K (.ref p) = some (.type "property") ∧ recIn Z.K p "property" = some (.ref g :: .ref t :: rest)

def callR (Q : Value → Shared → Prop) (E : Value → Shared → Prop) (r : Result) (s' : Shared) : Prop := match r with
  | .ok (.ret v) => Q v s'
  | .ok _ => False
  | .error e => E e s'

abbrev KVs (μ : List Addr) := All2 (fun (p : Str × AV) (q : Str × Value) => p.1 = q.1 ∧ VR μ p.2 q.2)
theorem KVs.mono {μ μ' : List Addr} (p : Pre μ μ') {v : List (Str × AV)} {cv : List (Str × Value)} (h : KVs μ v cv) : KVs μ' v cv := h.imp fun _ _ x => ⟨x.1, x.2.mono p⟩

/-- room for n more levels of calls -/
structure Room (n : Nat) (A : Around) : Prop where
  h : A.handled = none
  d : A.depth + 4 * n < recursionLimit
  u : A.units + 20 * n < cLine

structure XOk (Z : Cx) (X : IX) (n : Nat) : Prop where
  cls : ∀ C ci, X.cls C = some ci → ClsOk Z C ci
  call : ∀ {ex : List (Addr × Obj)} {fs : List (Addr × Data)} {L : Addr} {m : Str → Option Value} {μ : List Addr} {σ : Store} {s : Shared} {A : Around} {a : Addr} {args : List AV} {cargs : List Value} {kw : List (Str × AV)} {ckw : List (Str × Value)} {Q E : Value → Shared → Prop},
    Room n A → SR Z ex fs L m μ σ s.heap → VRs μ args cargs → KVs μ kw ckw → Post Z ex fs L m VR μ s Q E (X.call a args kw σ) → keepIn Z.K (.ref a) = true ∧ codeAny (model Z.prog Z.w) A (.call (.ref a) ⟨cargs, ckw⟩) (callR Q E) s

section
variable {Z : Cx} {G : Str → Option AV} {ex : List (Addr × Obj)} {fs : List (Addr × Data)} {L : Addr} {m : Str → Option Value} {μ : List Addr} {σ : Store} {s : Shared} {A : Around} {E : Value → Shared → Prop} {X : IX} {n : Nat}

theorem Room.in1 (r : Room n A) (h : A.units + 1 + 20 * n < cLine) : Room n A.in1 := ⟨r.h, r.d, h⟩

theorem SR.inst (S : SR Z ex fs L m μ σ s.heap) {k C : Addr} {d : Nat} {a : Addr} {fl : List (Str × AV)} (hk : σ[k]? = some (.inst C d)) (ha : μ[k]? = some a) (hf : findAttrs σ d = some fl) :
    ∃ dx ds c, μ[d]? = some dx ∧ s.heap.get? a = some (instObj C dx) ∧ s.heap.get? dx = some (dictOf ds c) ∧ All2 (KV μ) fl ds ∧ W.InstAt s.heap a (instObj C dx) C (some (dictOf ds c)) := by
  obtain ⟨ob, g, r⟩ := S.at' hk ha
  obtain ⟨dx, rfl, hd⟩ := r
  unfold findAttrs at hf
  split at hf
  · rename_i fs' hσ
    cases hf
    obtain ⟨ob, g', r'⟩ := S.at' hσ hd
    obtain ⟨ds, c, rfl, r'⟩ := r'
    exact ⟨dx, ds, c, hd, g, g', r', ⟨g, rfl, rfl, g'⟩⟩
  · cases hf

theorem isStr_key {v : Value} {x y : Str} (h : v.isStr x = true) : v.isStr y = (x == y) := by
  cases v <;> simp_all [Value.isStr]
theorem isStr_ref {e : DictEntry} {x : Str} (h : e.key.isStr x = true) : e.refKey = false := by
  obtain ⟨a, k, v⟩ := e
  cases k <;> simp_all [Value.isStr, DictEntry.refKey]
theorem attrs_get {fl : List (Str × AV)} {ds : List DictEntry} (r : All2 (KV μ) fl ds) (x : Str) : match fl.lookup x with
    | some v => ∃ cv, getL x ds = some (some cv) ∧ VR μ v cv
    | none => getL x ds = some none := by
  have : (match fl.lookup x with
    | some v => ∃ e, ds.find? (·.key.isStr x) = some e ∧ VR μ v e.val
    | none => ds.find? (·.key.isStr x) = none) ∧ ds.any (·.refKey) = false := by
    induction r with
    | nil => exact ⟨rfl, rfl⟩
    | @cons p e fl ds r _ ih =>
      obtain ⟨k, w⟩ := p
      obtain ⟨a, b⟩ := r
      refine ⟨?_, by rw [List.any_cons, isStr_ref a, ih.2]; rfl⟩
      rw [List.lookup_cons, List.find?_cons, isStr_key (y := x) a]
      cases h : x == k with
      | true =>
        have : (k == x) = true := by have := eq_of_beq h; subst this; simp
        rw [this]
        exact ⟨e, rfl, b⟩
      | false =>
        have : (k == x) = false := by
          have : ¬ x = k := by simpa using h
          simpa using fun e => this e.symm
        rw [this]
        exact ih.1
  unfold getL
  revert this
  cases fl.lookup x with
  | some v =>
    rintro ⟨⟨e, h, r⟩, _⟩
    exact ⟨e.val, by rw [h], r⟩
  | none =>
    rintro ⟨h, h'⟩
    rw [h, h']; rfl

theorem attrs_put {fl : List (Str × AV)} {ds : List DictEntry} (r : All2 (KV μ) fl ds) {x : Str} {v : AV} {cv : Value} (rv : VR μ v cv) (hsh : Int) (t : Tok) : All2 (KV μ) (putAttr x v fl) (putL x hsh (.str x t) cv ds) := by
  induction r with
  | nil => exact .cons ⟨by simp [Value.isStr], rv⟩ .nil
  | @cons p e fl ds r r' ih =>
    obtain ⟨k, w⟩ := p
    obtain ⟨a, b⟩ := r
    simp only [putAttr, putL]
    rw [isStr_key (y := x) a]
    split
    · rename_i h
      obtain rfl := eq_of_beq h
      exact .cons ⟨a, rv⟩ r'
    · exact .cons ⟨a, b⟩ ih
theorem putAttr_len {x : Str} {v : AV} : ∀ {fl : List (Str × AV)}, (putAttr x v fl).length ≤ fl.length + 1
  | [] => Nat.le_refl _
  | p :: r => by
    simp only [putAttr]
    split
    · simp
    · have := putAttr_len (x := x) (v := v) (fl := r)
      simp only [List.length_cons]; omega

theorem handed_in {v : AV} {cv : Value} (r : VR μ v cv) (h : handed v = true) : handedIn cv = true := by
  cases v with
  | none => cases r; rfl
  | bool => cases r; rfl
  | int => obtain ⟨t, rfl⟩ := r; rfl
  | str => obtain ⟨t, rfl⟩ := r; rfl
  | obj => obtain ⟨a, _, rfl⟩ := r; rfl
  | fix => cases h

theorem getAttr_snd (O : Ok Z G) (XO : XOk Z X n) (hr : Room n A) (hu : A.units + 1 + 20 * n < cLine) (S : SR Z ex fs L m μ σ s.heap) {v : AV} {cv : Value} {x : Str} {expr : Bool} {Q : Value → Shared → Prop} (rv : VR μ v cv)
    (h : Post Z ex fs L m VR μ s Q E (getAttrM X v x σ)) : wpAny (model Z.prog Z.w) A (getAttr cv x expr) Q E s := by
  unfold getAttrM at h
  split at h
  · rename_i k
    obtain ⟨a, ha, rfl⟩ := rv
    split at h
    · rename_i C d hk
      split at h
      · rename_i ci hc
        have CO := XO.cls C ci hc
        split at h
        · rename_i g t hp
          obtain ⟨p, rest, h1, h2, h3, h4, h5⟩ := CO.prop x g t hp
          obtain ⟨ob, go, ro⟩ := S.at' hk ha
          obtain ⟨dx, rfl, hd⟩ := ro
          obtain ⟨od, gd⟩ : ∃ od, s.heap.get? dx = some od := by
            obtain ⟨i, hi⟩ := List.getElem?_eq_some_iff.mp hd
            have : d < σ.length := S.len ▸ i
            obtain ⟨ob, q, _⟩ := S.obj d σ[d] dx (by simp [this]) hd
            exact ⟨ob, q⟩
          have I : W.InstAt s.heap a (instObj C dx) C (some od) := ⟨go, rfl, rfl, gd⟩
          refine get_prop S.fr O.kin I (CO.pg x) CO.hd h1 h2 h3 h5 ?_
          have := XO.call (A := A.in1) (s := { s with toks := s.toks + 1 }) (a := g) (args := [.obj k]) (cargs := [.ref a]) (kw := []) (ckw := []) (Q := fun v s' => wpAny (model Z.prog Z.w) A (handedOut v) Q E s')
            (E := fun e s' => wpAny (model Z.prog Z.w) A (noteIf true (.ref a) (.str x s.toks) e) (fun _ s'' => E e s'') E s') (hr.in1 hu) S (.cons ⟨a, ha, rfl⟩ .nil) .nil ?_
          · exact codeAny_mono this.2 fun r s' z => by rcases r with e | (v | _ | _ | _) <;> exact z
          · cases q : X.call g [.obj k] [] σ with
            | ok r σ' =>
              rw [q] at h
              intro μ' b h' tk p S' r'
              simp only [RE.bind] at h
              split at h
              · rename_i hh
                exact handed_on (handed_in r' hh) (h μ' b h' tk p S' r')
              · exact h.elim
            | exc k σ' => rw [q] at h; unfold RE.bind Post ExcPost at h; exact h.elim
            | bad => rw [q] at h; exact h.elim
        · split at h
          · rename_i hx
            have hx' := CO.attr x hx
            cases q : (findAttrs σ d).bind fun fs => (fs.lookup x).bind fun v => if handed v then some v else none with
            | none => rw [q] at h; exact h.elim
            | some v =>
              rw [q] at h
              obtain ⟨fl, hf, q⟩ := Option.bind_eq_some_iff.mp q
              obtain ⟨w, hl, q⟩ := Option.bind_eq_some_iff.mp q
              split at q
              · rename_i hh
                cases q
                obtain ⟨dx, ds, c, hd, g1, g2, r, I⟩ := S.inst hk ha hf
                have := attrs_get r x
                rw [hl] at this
                obtain ⟨cv, hg, rv⟩ := this
                exact get_own S.fr O.kin I (CO.pg x) CO.hd hx' rfl hg (handed_in rv hh) (h.ok' (tk := s.toks + 1) S rv)
              · cases q
          · exact h.elim
      · exact h.elim
    · exact h.elim
  · exact h.elim

theorem setAttr_snd (O : Ok Z G) (XO : XOk Z X n) (hr : Room n A) (hu : A.units + 2 + 20 * n < cLine) (S : SR Z ex fs L m μ σ s.heap) {v w : AV} {cv cw : Value} {x : Str} {Q : Unit → Shared → Prop} (rv : VR μ v cv) (rw' : VR μ w cw)
    (h : Post Z ex fs L m (fun _ (_ : Unit) (_ : Unit) => True) μ s Q E (setAttrM X v x w σ)) : wpAny (model Z.prog Z.w) A (setAttr cv x cw) Q E s := by
  unfold setAttrM at h
  split at h
  · rename_i k
    obtain ⟨a, ha, rfl⟩ := rv
    split at h
    · rename_i C d hk
      split at h
      · rename_i ci hc
        have CO := XO.cls C ci hc
        split at h
        · rename_i t g hp
          obtain ⟨p, rest, h1, h2, h3, h4, h5⟩ := CO.prop x t g hp
          obtain ⟨ob, go, ro⟩ := S.at' hk ha
          obtain ⟨dx, rfl, hd⟩ := ro
          obtain ⟨od, gd⟩ : ∃ od, s.heap.get? dx = some od := by
            obtain ⟨i, hi⟩ := List.getElem?_eq_some_iff.mp hd
            have : d < σ.length := S.len ▸ i
            obtain ⟨ob, q, _⟩ := S.obj d σ[d] dx (by simp [this]) hd
            exact ⟨ob, q⟩
          have I : W.InstAt s.heap a (instObj C dx) C (some od) := ⟨go, rfl, rfl, gd⟩
          refine set_prop S.fr O.kin I CO.sa CO.po (by unfold takerIn; rw [h1]; simp [h3]) h4 h5 ?_
          have := XO.call (A := A.in1.in1) (s := { s with toks := s.toks + 1 }) (a := g) (args := [.obj k, w]) (cargs := [.ref a, cw]) (kw := []) (ckw := []) (Q := fun _ s' => Q () s')
            (E := E) ((hr.in1 (by omega)).in1 hu) S (.cons ⟨a, ha, rfl⟩ (.cons rw' .nil)) .nil ?_
          · exact codeAny_mono this.2 fun r s' z => by rcases r with e | (v | _ | _ | _) <;> exact z
          · cases q : X.call g [.obj k, w] [] σ with
            | ok r σ' =>
              rw [q] at h
              intro μ' b h' tk p S' r'
              exact h μ' () h' tk p S' trivial
            | exc k σ' => rw [q] at h; unfold RE.bind Post ExcPost at h; exact h.elim
            | bad => rw [q] at h; exact h.elim
        · split at h
          · rename_i hx
            have hx' := CO.attr x hx
            split at h
            · rename_i fl hf
              split at h
              · rename_i hz
                obtain ⟨dx, ds, c, hd, g1, g2, r, I⟩ := S.inst hk ha hf
                have N : News Z.base L s.heap ((dx, dictOf ds c) :: ledgerBut dx (ledger ex fs μ s.heap)) := by
                  intro p hp
                  rcases List.mem_cons.mp hp with rfl | hp
                  · exact ⟨g2, (S.own dx (mem_of_at hd)).1, (S.own dx (mem_of_at hd)).2.1⟩
                  · exact S.news p (List.mem_filter.mp hp).1
                have hl : (getL x ds).isSome = true := by
                  have := attrs_get r x
                  revert this
                  cases fl.lookup x with
                  | some v => rintro ⟨cv, h, _⟩; rw [h]; rfl
                  | none => intro h; rw [h]; rfl
                have rp := attrs_put r rw' (x := x) (PyData.keyHash Z.w.params x) (s.toks + 1)
                refine set_dict S.fr O.kin N I rfl CO.sa CO.po (by unfold takerIn; rw [hx']; rfl) CO.hd hl rfl (Upd.head ledgerBut_ne) ?_ fun h' F' N' => ?_
                · rw [← rp.length]; have := putAttr_len (x := x) (v := w) (fl := fl); omega
                · have hσ : ∃ fl', σ[d]? = some (AO.attrs fl') := by
                    unfold findAttrs at hf
                    split at hf
                    · rename_i q; exact ⟨_, q⟩
                    · cases hf
                  exact h.ok (tk := s.toks + 2) (S.ofNewsBut hd F' (fun p hp => (N' p (.tail _ hp)).1) (N' _ (.head _)).1 ⟨_, _, rfl, rp⟩) trivial
              · exact h.elim
            · exact h.elim
          · exact h.elim
      · exact h.elim
    · exact h.elim
  · exact h.elim

theorem userCmp_snd (O : Ok Z G) (XO : XOk Z X n) (hr : Room n A) (S : SR Z ex fs L m μ σ s.heap) {v w : AV} {cv cw : Value} {op : CmpOp} {nm : Str} {Q : Value → Shared → Prop} (rv : VR μ v cv) (rw' : VR μ w cw) (hn : (cmpInfo op).2.1 = nm)
    (h : Post Z ex fs L m VR μ s Q E (userCmp X nm v w σ)) : wpAny (model Z.prog Z.w) A (richCompare op cv cw) Q E s := by
  unfold userCmp at h
  split at h
  · rename_i C D h1 h2
    split at h
    · rename_i hCD
      obtain rfl := eq_of_beq hCD
      split at h
      · rename_i f hf
        obtain ⟨ci, hc, hf⟩ := Option.bind_eq_some_iff.mp hf
        have CO := XO.cls C ci hc
        obtain ⟨hm1, hm2, hm3⟩ := CO.meth nm f hf
        have instOf : ∀ {v : AV} {cv : Value} {C : Addr}, VR μ v cv → instCls σ v = some C → ∃ a dx od, cv = .ref a ∧ W.InstAt s.heap a (instObj C dx) C (some od) := by
          intro v cv C rv h
          unfold instCls at h
          split at h
          · obtain ⟨a, ha, rfl⟩ := rv
            split at h
            · rename_i _ C' d hk
              cases h
              obtain ⟨ob, go, ro⟩ := S.at' hk ha
              obtain ⟨dx, rfl, hd⟩ := ro
              obtain ⟨od, gd⟩ : ∃ od, s.heap.get? dx = some od := by
                obtain ⟨i, hi⟩ := List.getElem?_eq_some_iff.mp hd
                have : d < σ.length := S.len ▸ i
                obtain ⟨ob, q, _⟩ := S.obj d σ[d] dx (by simp [this]) hd
                exact ⟨ob, q⟩
              exact ⟨a, dx, od, rfl, ⟨go, rfl, rfl, gd⟩⟩
            · cases h
          · cases h
        obtain ⟨a, dx, od, rfl, I⟩ := instOf rv h1
        obtain ⟨b, dx', od', rfl, I'⟩ := instOf rw' h2
        refine cmp_K (by have := hr.u; omega) S.fr O.kin I (InstAt.type I') CO.nf (hn ▸ hm1) hm2 (wpAny_call ?_)
        have := XO.call (A := A) (a := f) (args := [v, w]) (cargs := [.ref a, .ref b]) (kw := []) (ckw := []) (Q := W.CmpBack Q) (E := E) hr S (.cons rv (.cons rw' .nil)) .nil ?_
        · exact codeAny_mono this.2 fun r s' z => by rcases r with e | (v | _ | _ | _) <;> exact z
        · cases q : X.call f [v, w] [] σ with
          | ok r σ' =>
            rw [q] at h
            intro μ' b h' tk p S' r'
            simp only [RE.bind] at h
            split at h
            · cases r'; exact h μ' _ h' tk p S' rfl
            · exact h.elim
          | exc k σ' => rw [q] at h; unfold RE.bind Post ExcPost at h; exact h.elim
          | bad => rw [q] at h; exact h.elim
      · exact h.elim
    · exact h.elim
  · exact h.elim
end
end Mini

end

section
set_option autoImplicit false
namespace Mini
open PySem PySem.W PySem.Calls PyProof PyProof.Rows PyProof.V PySem.Spec PySem.SeqAt

section
variable {Z : Cx} {G : Str → Option AV} {ex : List (Addr × Obj)} {fs : List (Addr × Data)} {L : Addr} {m : Str → Option Value} {μ : List Addr} {σ : Store} {s : Shared} {A : Around} {E : Value → Shared → Prop} {X : IX} {n : Nat}

theorem SR.keepsNot (S : SR Z ex fs L m μ σ s.heap) {h' : Heap} (k : ∀ b o, b ≠ s.heap.objs.size → s.heap.get? b = some o → h'.get? b = some o) : SR Z ex fs L m μ σ h' :=
  S.keeps fun b o e => k b o (Nat.ne_of_lt (Heap.lt_size e)) e

theorem sum_snd (hr : Room n A) {xs : List AV} {k : Nat} {a : Addr} {is : List Int} {Q : Value → Shared → Prop} (S : SR Z ex fs L m μ σ s.heap) (hn : σ[k]? = some (.list xs)) (ha : μ[k]? = some a) (e : xs.mapM intOf = some is)
    (h : ∀ h' tk t', SR Z ex fs L m μ σ h' → Q (.int is.sum t') { s with heap := h', toks := tk }) : wpAny (model Z.prog Z.w) A (call (.builtin "sum") [.ref a]) Q E s := by
  obtain ⟨ob, g, r⟩ := S.at' hn ha
  obtain ⟨vs, hl, r, hsz, hz⟩ := r.isList g
  have q := ints_of e r
  refine call_sum_walkG (wpAny_pyIter_list hl ?_)
  have hne : a ≠ s.heap.objs.size := Nat.ne_of_lt (Heap.lt_size g)
  refine ⟨s.heap.objs.size, _, _, _, _, _, fun i => is.getD i 0, rfl, Walks.list (A := A.in1) hr.h _ a hne vs, ⟨⟨_, Heap.get?_push_size _ rfl, rfl, rfl⟩, ?_⟩, ?_, ?_, ?_⟩
  · obtain ⟨o, h1, h2, h3⟩ := hl
    exact ⟨o, Heap.get?_push_of_some _ h1, h2, h3⟩
  · intro b hb
    simp only [List.mem_cons, List.not_mem_nil, or_false] at hb
    rcases hb with rfl | rfl
    · show _ < (s.heap.push _).objs.size; rw [Heap.size_push]; exact Nat.lt_succ_self _
    · show _ < (s.heap.push _).objs.size; rw [Heap.size_push]; exact Nat.lt_succ_of_lt (Heap.lt_size g)
  · intro i v hv
    obtain ⟨i', h1⟩ : ∃ i', is[i]? = some i' := by
      have : i < is.length := by rw [q.length]; obtain ⟨h1, _⟩ := Array.getElem?_eq_some_iff.mp hv; simpa using h1
      exact ⟨is[i], by simp [this]⟩
    obtain ⟨w, h2, t, rfl⟩ := q.get h1
    rw [Array.getElem?_toList, hv] at h2
    cases h2
    exact ⟨t, by simp [List.getD, h1]⟩
  · intro h' tk t' hk
    have hs : preSum (fun i => is.getD i 0) vs.size = is.sum := by
      have h0 : vs.size = is.length := by rw [q.length]; simp
      rw [h0]
      have : ∀ k, k ≤ is.length → preSum (fun i => is.getD i 0) k = (is.take k).sum := by
        intro k
        induction k with
        | zero => intro _; rfl
        | succ k ih =>
          intro hk
          rw [preSum, ih (by omega), List.take_add_one]
          have : is[k]? = some is[k] := by simp
          rw [List.getD, this, List.sum_append]
          simp
      rw [this _ (Nat.le_refl _), List.take_length]
    rw [hs]
    exact h h' tk t' (S.keepsNot fun b o hb e => hk b o (by simpa using hb) (Heap.get?_push_of_some _ e))

theorem tupInts_more {v : AV} {ks : List Int} {o : AO} (h : tupInts σ v = some ks) : tupInts (σ ++ [o]) v = some ks := by
  unfold tupInts at h ⊢
  split at h
  · rename_i k
    split at h
    · rename_i xs hk
      obtain ⟨hi, _⟩ := List.getElem?_eq_some_iff.mp hk
      rw [List.getElem?_append_left hi, hk]
      exact h
    · cases h
  · cases h
theorem mapM_tupInts_more {o : AO} : ∀ {xs : List AV} {ks : List (List Int)}, xs.mapM (tupInts σ) = some ks → xs.mapM (tupInts (σ ++ [o])) = some ks
  | [], ks, h => by simpa using h
  | x :: xs, ks, h => by
    obtain ⟨y, r, rfl, h1, h2⟩ := mapM_cons_some h
    rw [List.mapM_cons, tupInts_more h1, mapM_tupInts_more h2]; rfl
theorem sortA_more {xs ys : List AV} {o : AO} (h : sortA σ xs = some ys) : sortA (σ ++ [o]) xs = some ys := by
  unfold sortA at h ⊢
  split at h
  · rename_i hz
    rw [if_pos hz]
    obtain ⟨ks, hk, rfl⟩ := Option.map_eq_some_iff.mp h
    have : sortKeys (σ ++ [o]) xs = some ks := by
      unfold sortKeys at hk ⊢
      split at hk
      · exact hk
      · obtain ⟨ks', h1, h2⟩ := Option.bind_eq_some_iff.mp hk
        simp only [mapM_tupInts_more h1, Option.bind_some]
        exact h2
    rw [this]; rfl
  · cases h

theorem sorted_snd {xs ys : List AV} {k : Nat} {a : Addr} {Q : Value → Shared → Prop} (S : SR Z ex fs L m μ σ s.heap) (hn : σ[k]? = some (.list xs)) (ha : μ[k]? = some a) (e : sortA σ xs = some ys)
    (h : Post Z ex fs L m VR μ s Q E (alloc (.list ys) σ)) : wpAny (model Z.prog Z.w) A (call (.builtin "sorted") [.ref a]) Q E s := by
  obtain ⟨ob, g, r⟩ := S.at' hn ha
  obtain ⟨vs, hl, r, hsz, hz⟩ := r.isList g
  have hz' : vs.toList.length ≤ sizeLine := by have := lim_line; rw [Array.length_toList]; omega
  refine Calls.call_function_entry kind_sorted plain_sorted entry_sorted (args_sorted1 _) ?_
  unfold Builtin.«sorted»
  refine wpAny_bind (m := checkCount "sorted" 1 1 _) (wpAny_pure ?_)
  refine wpAny_bind (collect_list (vs := vs.toList) (by simpa using hl) ?_ hz')
  refine wpAny_bind (wpAny_newList ?_ hz')
  generalize hH : (s.heap.push (seqObj "list" #[] 0)).update s.heap.objs.size (Obj.mapSeq (· ++ vs.toList.toArray)) = H
  have keep : ∀ b o, s.heap.get? b = some o → H.get? b = some o := fun b o q => by
    have hlt : b < s.heap.objs.size := Heap.lt_size q
    rw [← hH, Heap.get?_update_ne _ _ _ _ (Nat.ne_of_lt hlt), Heap.get?_push_ne _ _ _ (Nat.ne_of_lt hlt)]
    exact q
  have S1 := S.keeps keep
  have S2 := S1.alloc (o := .list xs) (ob := seqObj "list" vs.toList.toArray 0) rfl ⟨hz, _, _, rfl, by simpa using r.mono (Pre.add _ _)⟩
  have hlast : (σ ++ [AO.list xs])[σ.length]? = some (.list xs) := by simp
  have hμ : (μ ++ [H.objs.size])[σ.length]? = some H.objs.size := by rw [← S.len]; simp
  refine wpAny_bind (wpAny_holding (sort_snd (s := { s with heap := H.push (seqObj "list" vs.toList.toArray 0) }) (E := E) S2 hlast hμ (sortA_more e) ?_))
  intro μ' b h' tk p S' r'
  have hs : (σ ++ [AO.list xs]).set σ.length (AO.list ys) = σ ++ [AO.list ys] := by simp
  rw [hs] at S'
  refine wpAny_pure ⟨_, rfl, ?_⟩
  obtain ⟨r2, rfl⟩ := p
  refine h _ _ h' tk ⟨_, List.append_assoc .. ⟩ S' ⟨H.objs.size, ?_, rfl⟩
  rw [List.getElem?_append_left (by simp [S.len])]
  exact hμ

theorem OR.dictOf {es : List (Int × AV)} {ob : Obj} {h : Heap} {a : Addr} (r : OR μ (.dict es) ob) (g : h.get? a = some ob) :
    ∃ kvs : List (Int × Value), Heap.DictOf (intKind Z.prog Z.w) h a kvs ∧ kvs.length = es.length := by
  obtain ⟨z, ds, k, rfl, r⟩ := r
  have : ∃ kvs : List (Int × Value), Pairs (intKind Z.prog Z.w) ds kvs ∧ kvs.map (·.1) = es.map (·.1) := by
    clear g z
    induction r with
    | nil => exact ⟨[], .nil, rfl⟩
    | @cons p e es ds r _ ih =>
      obtain ⟨⟨t, a, b⟩, c⟩ := r
      obtain ⟨kvs, h1, h2⟩ := ih
      exact ⟨(p.1, e.val) :: kvs, .cons (by show Value.isInt p.1 e.key = true; rw [a]; simp [Value.isInt]) rfl h1, by simp [h2]⟩
  obtain ⟨kvs, h1, h2⟩ := this
  refine ⟨kvs, ⟨_, ds.toArray, k, g, ⟨rfl, rfl, rfl⟩, rfl, fun e he => let ⟨k, t, a, b⟩ := dictKeys r e he; ⟨k, by show Value.isInt k e.key = true; rw [a]; simp [Value.isInt], b⟩, by simpa using h1, by rw [h2]; exact z.2⟩, by have := congrArg List.length h2; simpa using this⟩

/-- what a call of a value gives -/
theorem callM_snd (O : Ok Z G) (XO : XOk Z X n) (hr : Room n A) (S : SR Z ex fs L m μ σ s.heap) {f : AV} {cf : Value} {args : List AV} {cargs : List Value} {kw : List (Str × AV)} {ckw : List (Str × Value)} {Q : Value → Shared → Prop}
    (rf : VR μ f cf) (ra : VRs μ args cargs) (rk : KVs μ kw ckw) (h : Post Z ex fs L m VR μ s Q E (callM X f args kw σ)) :
    (∃ k, (k = Keeper.frame ∨ k = Keeper.machine ∨ k = Keeper.boundFrame) ∧ Looks (model Z.prog Z.w) s.heap (keeperOf cf) k) ∧ wpAny (model Z.prog Z.w) A (call cf cargs ckw) Q E s := by
  unfold callM at h
  split at h
  · cases rf
    obtain ⟨h1, h2⟩ := XO.call hr S ra rk h
    exact ⟨keeps_K h1 _ (O.kin.keeps S.fr.keep), wpAny_call (codeAny_mono h2 fun r s' z => by rcases r with e | (v | _ | _ | _) <;> exact z)⟩
  · rename_i b
    cases rf
    split at h
    · cases rk
      refine ⟨⟨.machine, .inr (.inl rfl), Looks.of_pure rfl⟩, ?_⟩
      unfold builtinM at h
      split at h
      · rename_i v
        cases ra with
        | cons rv rr =>
          cases rr
          obtain ⟨k, hk, h⟩ := h.lift
          unfold lenM at hk
          split at hk
          · rename_i j
            obtain ⟨a, ha, rfl⟩ := rv
            split at hk
            · rename_i xs hj
              cases hk
              obtain ⟨ob, g, r⟩ := S.at' hj ha
              obtain ⟨vs, hl, r, hsz, hz⟩ := r.isList g
              rw [lim_small] at hz
              refine len_list hl (by omega) ?_
              rw [hsz]
              exact h.ok' (tk := s.toks + 1 + 1) S ⟨_, rfl⟩
            · rename_i xs o hj
              cases hk
              obtain ⟨ob, g, r⟩ := S.at' hj ha
              obtain ⟨vs, hl, r, hsz, hz⟩ := r.isRol g
              rw [lim_small] at hz
              refine len_list hl (by omega) ?_
              rw [hsz]
              exact h.ok' (tk := s.toks + 1 + 1) S ⟨_, rfl⟩
            · rename_i xs hj
              cases hk
              obtain ⟨ob, g, r⟩ := S.at' hj ha
              obtain ⟨vs, hl, r, hsz, hz⟩ := r.isTup g
              rw [lim_small] at hz
              refine len_tuple hl (by omega) ?_
              rw [hsz]
              exact h.ok' (tk := s.toks + 1 + 1) S ⟨_, rfl⟩
            · rename_i es hj
              cases hk
              obtain ⟨ob, g, r⟩ := S.at' hj ha
              have hz := r.1.1
              rw [lim_small] at hz
              obtain ⟨kvs, hd, hl⟩ := r.dictOf (Z := Z) g
              refine call_len_dict (beq_false_of_ne (Nat.ne_of_gt (S.own a (mem_of_at ha)).2.2)) hd (by omega) ?_
              rw [hl]
              exact h.ok' (tk := s.toks + 1 + 1) S ⟨_, rfl⟩
            · cases hk
          · rename_i x
            obtain ⟨t, rfl⟩ := rv
            split at hk
            · rename_i hx
              cases hk
              rw [lim_small] at hx
              exact len_str (by omega) (h.ok' (tk := s.toks + 1 + 1) S ⟨_, rfl⟩)
            · cases hk
          · cases hk
      · rename_i v c
        cases ra with
        | cons rv rr =>
          cases rr with
          | cons rc rr =>
            cases rr
            obtain ⟨b, hb, h2⟩ := h.lift
            clear h
            unfold isInstM at hb
            split at hb
            · cases hb; cases rc; obtain ⟨t, rfl⟩ := rv
              exact IsiPair.int_int (h2.ok0 S rfl)
            · cases hb; cases rc; obtain ⟨t, rfl⟩ := rv
              exact IsiPair.int_bool (h2.ok' (tk := s.toks + 1) S rfl)
            · rename_i C v
              cases rc
              split at hb
              · rename_i D hD
                split at hb
                · rename_i hDC
                  cases hb
                  obtain rfl := eq_of_beq hDC
                  unfold instCls at hD
                  split at hD
                  · rename_i j
                    obtain ⟨a, ha, rfl⟩ := rv
                    split at hD
                    · rename_i _ d hj
                      cases hD
                      obtain ⟨ob, go, ro⟩ := S.at' hj ha
                      obtain ⟨dx, rfl, hd⟩ := ro
                      obtain ⟨od, gd⟩ : ∃ od, s.heap.get? dx = some od := by
                        obtain ⟨i, hi⟩ := List.getElem?_eq_some_iff.mp hd
                        have : d < σ.length := S.len ▸ i
                        obtain ⟨ob, q, _⟩ := S.obj d σ[d] dx (by simp [this]) hd
                        exact ⟨ob, q⟩
                      have I : W.InstAt s.heap a (instObj D dx) D (some od) := ⟨go, rfl, rfl, gd⟩
                      exact isi_call (O.kin.keeps S.fr.keep) (fun M => InstAt.type I) (by unfold isIn; simp) (fun e => by cases e) (h2.ok0 S (show VR μ (.bool true) (.bool true) from rfl))
                    · cases hD
                  · cases hD
                · cases hb
              · cases hb
            · cases hb
      · rename_i v
        cases ra with
        | cons rv rr =>
          cases rr
          obtain ⟨i, hi, h⟩ := h.lift
          unfold sumM at hi
          split at hi
          · obtain ⟨a, ha, rfl⟩ := rv
            split at hi
            · rename_i xs hj
              obtain ⟨is, hs, rfl⟩ := Option.map_eq_some_iff.mp hi
              exact sum_snd hr S hj ha hs fun h' tk t' S' => h.ok (tk := tk) S' ⟨_, rfl⟩
            · cases hi
          · cases hi
      · rename_i k
        cases ra with
        | cons rv rr =>
          cases rr
          obtain ⟨a, ha, rfl⟩ := rv
          split at h
          · rename_i xs hj
            obtain ⟨ys, hy, h⟩ := h.lift
            exact sorted_snd S hj ha hy h
          · exact h.elim
      · exact h.elim
    · exact h.elim
  · rename_i b
    cases rf
    split at h
    · cases rk
      refine ⟨⟨.machine, .inr (.inl rfl), Looks.of_pure rfl⟩, ?_⟩
      unfold typeM at h
      split at h
      · cases ra with
        | cons rv rr =>
          cases rr
          obtain ⟨a, ha, rfl⟩ := rv
          split at h
          · rename_i xs hj
            obtain ⟨ob, g, r⟩ := S.at' hj ha
            obtain ⟨vs, hl, r, hsz, hz⟩ := r.isList g
            refine call_tuple_list hl (fun h' hk => ?_) (by have := lim_line; omega)
            have S1 := S.keeps hk
            exact h _ _ _ s.toks (Pre.add _ _) (S1.alloc (ob := { cls := .type "tuple", data := .seq vs }) rfl ⟨hz, vs, 0, rfl, r.mono (Pre.add _ _)⟩) (VR.last S1 _)
          · exact h.elim
      · exact h.elim
    · exact h.elim
  · exact h.elim
end
end Mini

end

section
set_option autoImplicit false
namespace Mini
open PySem PySem.W PySem.Calls PyProof PyProof.Rows PyProof.V PySem.Spec PySem.SeqAt

section
variable {Z : Cx} {G : Str → Option AV} {ex : List (Addr × Obj)} {fs : List (Addr × Data)} {L : Addr} {m : Str → Option Value} {μ : List Addr} {σ : Store} {s : Shared} {A : Around} {E : Value → Shared → Prop} {X : IX} {n : Nat}

theorem list_slot {x : Str} {id : String} (h : listIds.lookup x = some id) : Slot "list" x id ∧ typeOf (.builtin id) = pure (.type "method_descriptor") := by
  have : ∀ (l : List (Str × String)), (∀ p ∈ l, Slot "list" p.1 p.2 ∧ typeOf (.builtin p.2) = pure (.type "method_descriptor")) → l.lookup x = some id → Slot "list" x id ∧ typeOf (.builtin id) = pure (.type "method_descriptor") := by
    intro l
    induction l with
    | nil => intro _ h; cases h
    | cons p r ih =>
      intro hp h
      obtain ⟨k, v⟩ := p
      rw [List.lookup_cons] at h
      split at h
      · rename_i e
        obtain rfl := eq_of_beq e
        cases h
        exact hp _ (.head _)
      · exact ih (fun p hp' => hp p (.tail _ hp')) h
  refine this _ ?_ h
  intro p hp
  simp only [listIds, List.mem_cons, List.not_mem_nil, or_false] at hp
  rcases hp with rfl | rfl | rfl | rfl | rfl | rfl | rfl | rfl
  · exact ⟨PySem.F.slot_list_append, PySem.F.type_list_append⟩
  · exact ⟨PySem.F.slot_list_pop, PySem.F.type_list_pop⟩
  · exact ⟨PySem.F.slot_list_insert, PySem.F.type_list_insert⟩
  · exact ⟨PySem.F.slot_list_extend, PySem.F.type_list_extend⟩
  · exact ⟨PySem.F.slot_list_reverse, PySem.F.type_list_reverse⟩
  · exact ⟨PySem.F.slot_list_sort, PySem.F.type_list_sort⟩
  · exact ⟨PySem.F.slot_list_index, PySem.F.type_list_index⟩
  · exact ⟨PySem.F.slot_list_remove, PySem.F.type_list_remove⟩

def mvVal : MV → Value
  | .fn f => .ref f
  | .lst id => .builtin id
/-- a method that was found -/
def MVOk (Z : Cx) (x : Str) : MV → Prop
  | .fn f => keepIn Z.K (.ref f) = true
  | .lst id => listIds.lookup x = some id

theorem MVOk.keeper {x : Str} {mv : MV} (h : MVOk Z x mv) (O : Ok Z G) {H : Heap} (hk : ∀ b o, Z.base.get? b = some o → H.get? b = some o) :
    ∃ k, (k = Keeper.frame ∨ k = Keeper.machine ∨ k = Keeper.boundFrame) ∧ Looks (model Z.prog Z.w) H (keeperOf (mvVal mv)) k := by
  cases mv with
  | fn f => exact keeps_K h _ (O.kin.keeps hk)
  | lst id => exact ⟨.machine, .inr (.inl rfl), Looks.of_pure rfl⟩

theorem findM_snd (O : Ok Z G) (XO : XOk Z X n) (S : SR Z ex fs L m μ σ s.heap) {o : AV} {co : Value} {x : Str} {mv : MV} {pl : Sem Bool} {Q : Value × List Value → Shared → Prop} (ro : VR μ o co) (e : findM X o x σ = some mv)
    (h : MVOk Z x mv → Q (mvVal mv, [co]) s) : wpAny (model Z.prog Z.w) A (getMethod co x pl) Q E s := by
  unfold findM at e
  split at e
  · rename_i k
    obtain ⟨a, ha, rfl⟩ := ro
    split at e
    · rename_i C d hk
      split at e
      · rename_i ci hc
        have CO := XO.cls C ci hc
        split at e
        · rename_i f fl hf hfl
          split at e
          · rename_i hl
            cases e
            obtain ⟨dx, ds, c, hd, g1, g2, r, I⟩ := S.inst hk ha hfl
            have := attrs_get r x
            rw [hl] at this
            obtain ⟨h1, h2, h3⟩ := CO.meth x f hf
            exact method_inst S.fr O.kin I (CO.pg x) h1 h2 this (h h3)
          · cases e
        · cases e
      · cases e
    · rename_i xs hk
      obtain ⟨id, hid, rfl⟩ := Option.map_eq_some_iff.mp e
      obtain ⟨vs, c, g, r, hsz, z⟩ := S.listAt hk ha
      obtain ⟨h1, h2⟩ := list_slot hid
      exact getMethod_builtin ⟨_, g, rfl⟩ PySem.F.plainAttrs_list h1 h2 (fun b hb => by cases hb; exact ⟨_, g, rfl⟩) (h hid)
    · cases e
  · cases e

theorem methM_snd (O : Ok Z G) (XO : XOk Z X n) (hr : Room n A) (S : SR Z ex fs L m μ σ s.heap) {mv : MV} {o : AV} {co : Value} {x : Str} {args : List AV} {cargs : List Value} {kw : List (Str × AV)} {ckw : List (Str × Value)} {Q : Value → Shared → Prop}
    (hm : MVOk Z x mv) (ro : VR μ o co) (ra : VRs μ args cargs) (rk : KVs μ kw ckw) (h : Post Z ex fs L m VR μ s Q E (methM X mv o x args kw σ)) :
    wpAny (model Z.prog Z.w) A (call (mvVal mv) (co :: cargs) ckw) Q E s := by
  unfold methM at h
  split at h
  · obtain ⟨h1, h2⟩ := XO.call hr S (.cons ro ra) rk h
    exact wpAny_call (codeAny_mono h2 fun r s' z => by rcases r with e | (v | _ | _ | _) <;> exact z)
  · rename_i id
    split at h
    · cases rk
      obtain ⟨a, ha, rfl⟩ := ro
      split at h
      · rename_i xs hk
        obtain ⟨id', h1, h2, h3⟩ := listMeth_snd (A := A) S hk ha ra h
        obtain ⟨h4, h5⟩ := list_slot hm
        have : id' = id := by
          have := h1.lookup.symm.trans h4.lookup
          injection this with this; injection this with this; injection this
        rw [this] at h3
        exact h3
      · exact h.elim
    · exact h.elim
end
end Mini

end

section
set_option autoImplicit false
namespace Mini
open PySem PySem.W PySem.Calls PyProof PyProof.Rows PyProof.V PySem.Spec PySem.SeqAt

/-- the state of a frame -/
structure St (Z : Cx) (G : Str → Option AV) (Sc : Mini.Sc) (env : Env) (cl : List (Str × Addr)) (γ : List (Str × Nat)) (ρ : Loc) (ex : List (Addr × Obj)) (fs : List (Addr × Data)) (L : Addr) (m : Str → Option Value) (μ : List Addr) (σ : Store) (s : Shared) : Prop where
  fe : FE G Sc env L cl
  sr : SR Z ex fs L m μ σ s.heap
  fr : FRel μ ρ m
  gr : GRel μ γ cl

/-- room for the body of a frame -/
structure RoomB (n : Nat) (A : Around) : Prop extends Room n A where
  b : A.units + 16 + 20 * n < cLine

section
variable {Z : Cx} {G : Str → Option AV} {Sc : Mini.Sc} {env : Env} {cl : List (Str × Addr)} {γ : List (Str × Nat)} {ρ : Loc} {ex : List (Addr × Obj)} {fs : List (Addr × Data)} {L : Addr} {m : Str → Option Value} {μ : List Addr} {σ : Store} {s : Shared} {A : Around} {E : Value → Shared → Prop} {X : IX} {n : Nat}

theorem St.next (T : St Z G Sc env cl γ ρ ex fs L m μ σ s) {μ' : List Addr} {σ' : Store} {h' : Heap} {tk : Nat} (p : Pre μ μ') (S : SR Z ex fs L m μ' σ' h') : St Z G Sc env cl γ ρ ex fs L m μ' σ' { s with heap := h', toks := tk } :=
  ⟨T.fe, S, T.fr.mono p, T.gr.mono p⟩

def HE (Z : Cx) (G : Str → Option AV) (X : IX) (A : Around) (fuel : Nat) : Prop :=
  ∀ {Sc : Mini.Sc} {env : Env} {cl : List (Str × Addr)} {γ : List (Str × Nat)} {ρ : Loc} {ex : List (Addr × Obj)} {fs : List (Addr × Data)} {L : Addr} {m : Str → Option Value} {μ : List Addr} {σ : Store} {s : Shared} {E : Value → Shared → Prop} {x : Expr} {ce : CE} {Q : Value → Shared → Prop},
    cE Sc fuel x = some ce → St Z G Sc env cl γ ρ ex fs L m μ σ s → Post Z ex fs L m VR μ s Q E (evalE X γ ρ ce σ) → wpAny (model Z.prog Z.w) A (eval x env) Q E s

def HTr (Z : Cx) (G : Str → Option AV) (X : IX) (A : Around) (fuel : Nat) : Prop :=
  ∀ {Sc : Mini.Sc} {env : Env} {cl : List (Str × Addr)} {γ : List (Str × Nat)} {ρ : Loc} {ex : List (Addr × Obj)} {fs : List (Addr × Data)} {L : Addr} {m : Str → Option Value} {μ : List Addr} {σ : Store} {s : Shared} {E : Value → Shared → Prop} {x : Expr} {ce : CE} {Q : Bool → Shared → Prop},
    cE Sc fuel x = some ce → St Z G Sc env cl γ ρ ex fs L m μ σ s → Post Z ex fs L m (fun _ (a b : Bool) => a = b) μ s Q E (evalT X γ ρ ce σ) → wpAny (model Z.prog Z.w) A (isTrue x env (eval x env)) Q E s

def Free (xs : List Expr) : Prop := ∀ x ∈ xs, ∀ e p, x ≠ .Starred e p

def HL (Z : Cx) (G : Str → Option AV) (X : IX) (A : Around) (fuel : Nat) : Prop :=
  ∀ {Sc : Mini.Sc} {env : Env} {cl : List (Str × Addr)} {γ : List (Str × Nat)} {ρ : Loc} {ex : List (Addr × Obj)} {fs : List (Addr × Data)} {L : Addr} {m : Str → Option Value} {μ : List Addr} {σ : Store} {s : Shared} {E : Value → Shared → Prop} {xs : List Expr} {ces : CL} {pos : Pos} {Q : List Value → Shared → Prop},
    cL Sc fuel xs = some ces → St Z G Sc env cl γ ρ ex fs L m μ σ s → Post Z ex fs L m VRs μ s Q E (evalL X γ ρ ces σ) → wpAny (model Z.prog Z.w) A (spliced (backTo pos (starEach xs env))) Q E s

theorem starEach_cons {x : Expr} {r : List Expr} {env : Env} (h : ∀ e p, x ≠ .Starred e p) : starEach (x :: r) env = (false, eval x env) :: starEach r env := by
  cases x <;> first | rfl | exact absurd rfl (h _ _)

theorem cL_cons {Sc : Mini.Sc} {k : Nat} {x : Expr} {r : List Expr} {ces : CL} (h : cL Sc (k + 1) (x :: r) = some ces) : (∀ e p, x ≠ .Starred e p) ∧ ∃ c d, cE Sc k x = some c ∧ cL Sc k r = some d ∧ ces = .cons c d := by
  unfold cL at h
  split at h
  · cases h
  · rename_i hx
    obtain ⟨c, hc, h⟩ := Option.bind_eq_some_iff.mp h
    obtain ⟨d, hd, rfl⟩ := Option.map_eq_some_iff.mp h
    exact ⟨fun e p q => hx e p q, c, d, hc, hd, rfl⟩
theorem cL_nil {Sc : Mini.Sc} {k : Nat} {ces : CL} (h : cL Sc (k + 1) [] = some ces) : ces = .nil := by
  unfold cL at h; cases h; rfl

theorem hl_step {k : Nat} (he : HE Z G X A k) (hl : HL Z G X A k) : HL Z G X A (k + 1) := by
  intro Sc env cl γ ρ ex fs L m μ σ s E xs ces pos Q c T h
  cases xs with
  | nil =>
    cases cL_nil c
    rw [evalL] at h
    exact Calls.spliced_nil (h.ok0 T.sr .nil)
  | cons x r =>
    obtain ⟨hx, c1, d, h1, h2, rfl⟩ := cL_cons c
    rw [evalL] at h
    rw [starEach_cons hx]
    refine Calls.spliced_cons (he h1 T (h.bind fun v σ' μ' b h' tk _ p S rv h3 => hl h2 (T.next p S) (h3.bind fun vs σ'' μ'' bs h'' tk' _ p' S' rvs h4 => ?_)))
    exact h4.ok (tk := tk') S' (.cons (rv.mono p') rvs)

theorem snd_binop {k : Nat} (he : HE Z G X A k) {a b : Expr} {op : Operator} {pos : Pos} {ca cb : CE} {Q : Value → Shared → Prop} (h1 : cE Sc k a = some ca) (h2 : cE Sc k b = some cb) (T : St Z G Sc env cl γ ρ ex fs L m μ σ s)
    (h : Post Z ex fs L m VR μ s Q E (evalE X γ ρ (.bin op ca cb) σ)) : wpAny (model Z.prog Z.w) A (eval (.BinOp a op b pos) env) Q E s := by
  rw [evalE] at h
  exact wpAny_BinOp (he h1 T (h.bind fun v σ' μ' c h' tk _ p S rv h3 => he h2 (T.next p S) (h3.bind fun w σ'' μ'' d h'' tk' _ p' S' rw' h4 => bin_snd S' (rv.mono p') rw' h4)))

theorem snd_neg {k : Nat} (he : HE Z G X A k) {a : Expr} {pos : Pos} {ca : CE} {Q : Value → Shared → Prop} (h1 : cE Sc k a = some ca) (T : St Z G Sc env cl γ ρ ex fs L m μ σ s)
    (h : Post Z ex fs L m VR μ s Q E (evalE X γ ρ (.neg ca) σ)) : wpAny (model Z.prog Z.w) A (eval (.UnaryOp .USub a pos) env) Q E s := by
  rw [evalE] at h
  refine wpAny_UnaryOp (he h1 T (h.bind fun v σ' μ' c h' tk _ p S rv h3 => ?_))
  split at h3
  · obtain ⟨t, rfl⟩ := rv
    exact neg_int (h3.ok' S ⟨_, rfl⟩)
  · exact h3.elim

theorem snd_not {k : Nat} (he : HE Z G X A k) {a : Expr} {pos : Pos} {ca : CE} {Q : Value → Shared → Prop} (h1 : cE Sc k a = some ca) (T : St Z G Sc env cl γ ρ ex fs L m μ σ s)
    (h : Post Z ex fs L m VR μ s Q E (evalE X γ ρ (.not ca) σ)) : wpAny (model Z.prog Z.w) A (eval (.UnaryOp .Not a pos) env) Q E s := by
  rw [evalE] at h
  refine wpAny_UnaryOp (he h1 T (h.bind fun v σ' μ' c h' tk _ p S rv h3 => ?_))
  obtain ⟨b, hb, h3⟩ := h3.lift
  exact not_of (truthy_snd S rv hb fun tk => h3.ok' S rfl)

theorem snd_attr {k : Nat} (O : Ok Z G) (XO : XOk Z X n) (hr : RoomB n A) (he : HE Z G X A k) {a : Expr} {x : Str} {pos : Pos} {ca : CE} {Q : Value → Shared → Prop} (hp : plainBase a = true) (h1 : cE Sc k a = some ca) (T : St Z G Sc env cl γ ρ ex fs L m μ σ s)
    (h : Post Z ex fs L m VR μ s Q E (evalE X γ ρ (.attr ca x) σ)) : wpAny (model Z.prog Z.w) A (eval (.Attribute a x pos) env) Q E s := by
  rw [evalE] at h
  refine Attribute_any_ (he h1 T (h.bind fun v σ' μ' c h' tk _ p S rv h3 => getAttr_snd O XO hr.toRoom (by have := hr.b; omega) S rv h3)) ?_
  have : attributeBase a x env (eval a env) = eval a env := by
    unfold attributeBase
    cases a <;> try rfl
    rename_i f es kws p
    cases f <;> try rfl
    cases es <;> try rfl
    cases kws <;> try rfl
    simp [plainBase] at hp
  show (attributeBase a x env (eval a env) >>= _) = _
  rw [this]

theorem getItem_tail {v i : AV} {cv ci : Value} {a sl : Expr} {Q : Value → Shared → Prop} (S : SR Z ex fs L m μ σ s.heap) (rv : VR μ v cv) (ri : VR μ i ci) (hsl : ∀ lo hi st p, sl ≠ .Slice lo hi st p)
    (h : Post Z ex fs L m VR μ s Q E (getItemM v i σ)) : wpAny (model Z.prog Z.w) A (subscriptTail a sl cv ci) Q E s := by
  have ht : ∃ T id, s.TypeIs cv T ∧ typeLookup (Value.type T) (Str.ofString "__getitem__") = pure (some (Value.builtin id)) := by
    unfold getItemM at h
    split at h
    · rename_i k
      obtain ⟨a, ha, rfl⟩ := rv
      split at h
      · rename_i hk
        obtain ⟨vs, c, g, _⟩ := S.listAt hk ha
        exact ⟨"list", _, ⟨_, g, rfl⟩, slot_list_getitem.lookup⟩
      · rename_i hk
        obtain ⟨ob, g, r⟩ := S.at' hk ha
        obtain ⟨_, z, vs, c, hc, _⟩ := r
        exact ⟨"list", _, ⟨_, g, hc⟩, slot_list_getitem.lookup⟩
      · rename_i hk
        obtain ⟨ob, g, r⟩ := S.at' hk ha
        obtain ⟨z, vs, c, rfl, r⟩ := r
        exact ⟨"tuple", _, ⟨_, g, rfl⟩, slot_tuple_getitem.lookup⟩
      · rename_i hk
        obtain ⟨ob, g, r⟩ := S.at' hk ha
        obtain ⟨z, vs, c, rfl, r⟩ := r
        exact ⟨"dict", _, ⟨_, g, rfl⟩, slot_dict_getitem.lookup⟩
      · rename_i hk
        obtain ⟨ob, g, r⟩ := S.at' hk ha
        exact r.elim
      · exact h.elim
    · exact h.elim
  obtain ⟨T, id, h1, h2⟩ := ht
  exact tail_any (ops := [cv, ci]) h1 h2 (getItem_snd S rv ri h) (by unfold subscripted; cases sl <;> first | rfl | exact absurd rfl (hsl _ _ _ _))

theorem snd_sub {k : Nat} (he : HE Z G X A k) {a i : Expr} {pos : Pos} {ca ci : CE} {Q : Value → Shared → Prop} (h1 : cE Sc k a = some ca) (h2 : cE Sc k i = some ci) (hi : ∀ lo hi st p, i ≠ .Slice lo hi st p) (T : St Z G Sc env cl γ ρ ex fs L m μ σ s)
    (h : Post Z ex fs L m VR μ s Q E (evalE X γ ρ (.sub ca ci) σ)) : wpAny (model Z.prog Z.w) A (eval (.Subscript a i pos) env) Q E s := by
  rw [evalE] at h
  exact Subscript_ (he h1 T (h.bind fun v σ' μ' c h' tk _ p S rv h3 => he h2 (T.next p S) (h3.bind fun w σ'' μ'' d h'' tk' _ p' S' rw' h4 => getItem_tail S' (rv.mono p') rw' hi h4)))

theorem snd_list {k : Nat} (hl : HL Z G X A k) {xs : List Expr} {pos : Pos} {ces : CL} {Q : Value → Shared → Prop} (h1 : cL Sc k xs = some ces) (T : St Z G Sc env cl γ ρ ex fs L m μ σ s)
    (h : Post Z ex fs L m VR μ s Q E (evalE X γ ρ (.list ces) σ)) : wpAny (model Z.prog Z.w) A (eval (.List xs pos) env) Q E s := by
  rw [evalE] at h
  refine wpAny_List (hl h1 T (h.bind fun vs σ' μ' cs h' tk _ p S rv h3 => ?_))
  unfold allocL at h3
  split at h3
  · rename_i hz
    have hl := rv.length
    refine ⟨by have := lim_line; omega, ?_⟩
    exact h3.allocP (tk := tk) S rfl ⟨by omega, cs.toArray, 0, rfl, by simpa using VRs.mono (Pre.add _ _) rv⟩
  · exact h3.elim

theorem snd_tuple {k : Nat} (hl : HL Z G X A k) {xs : List Expr} {c : Nat} {pos : Pos} {ces : CL} {Q : Value → Shared → Prop} (h1 : cL Sc k xs = some ces) (T : St Z G Sc env cl γ ρ ex fs L m μ σ s)
    (h : Post Z ex fs L m VR μ s Q E (evalE X γ ρ (.tup ces) σ)) : wpAny (model Z.prog Z.w) A (eval (.Tuple xs c pos) env) Q E s := by
  rw [evalE] at h
  refine wpAny_Tuple (hl h1 T (h.bind fun vs σ' μ' cs h' tk _ p S rv h3 => ?_))
  split at h3
  · rename_i hz
    have hl := rv.length
    refine ⟨by have := lim_line; omega, ?_⟩
    exact h3.allocP (tk := tk) S rfl ⟨by omega, cs.toArray, 0, rfl, by simpa using VRs.mono (Pre.add _ _) rv⟩
  · exact h3.elim
end
end Mini

end

section
set_option autoImplicit false
namespace Mini
open PySem PySem.W PySem.Calls PyProof PyProof.Rows PyProof.V PySem.Spec PySem.SeqAt

section
variable {Z : Cx} {G : Str → Option AV} {Sc : Mini.Sc} {env : Env} {cl : List (Str × Addr)} {γ : List (Str × Nat)} {ρ : Loc} {ex : List (Addr × Obj)} {fs : List (Addr × Data)} {L : Addr} {m : Str → Option Value} {μ : List Addr} {σ : Store} {s : Shared} {A : Around} {E : Value → Shared → Prop} {X : IX} {n : Nat}

theorem cmpM_snd (O : Ok Z G) (XO : XOk Z X n) (hr : RoomB n A) (S : SR Z ex fs L m μ σ s.heap) {op : CmpOp} {v w : AV} {cv cw : Value} {Q : Value → Shared → Prop} (rv : VR μ v cv) (rw' : VR μ w cw)
    (h : Post Z ex fs L m VR μ s Q E (cmpM X op v w σ)) : wpAny (model Z.prog Z.w) A (compareOp op cv cw) Q E s := by
  unfold cmpM at h
  split at h
  · split at h
    · exact cmp_ofLt (userCmp_snd O XO hr.toRoom S rv rw' rfl h)
    · exact cmp_ofEq (userCmp_snd O XO hr.toRoom S rv rw' rfl h)
    · exact h.elim
  · obtain ⟨b, hb, h⟩ := h.lift
    exact cmpP_snd (by have := hr.b; omega) S rv rw' hb fun tk => h.ok' S rfl

theorem cL_get {k : Nat} : ∀ {xs : List Expr} {ces : CL}, cL Sc k xs = some ces → ∀ e ∈ xs, (∃ j c, cE Sc j e = some c)
  | [], _, _, _, he => by cases he
  | x :: r, ces, h, e, he => by
    cases k with
    | zero => unfold cL at h; cases h
    | succ k =>
      obtain ⟨_, c, d, h1, h2, rfl⟩ := cL_cons h
      cases he with
      | head => exact ⟨k, c, h1⟩
      | tail _ he => exact cL_get h2 e he
theorem cE_noSet {k : Nat} {e : Expr} {c : CE} (h : cE Sc k e = some c) (op : CmpOp) : behindInMarks op e = false := by
  cases e <;> try rfl
  cases k with
  | zero => unfold cE at h; cases h
  | succ k => unfold cE at h; cases h
theorem marks_none {k : Nat} : ∀ {ops : List CmpOp} {xs : List Expr} {ces : CL}, cL Sc k xs = some ces → lastMarks ops xs = false
  | [], xs, _, _ => by cases xs <;> rfl
  | [op], [x], _, h => by
    obtain ⟨j, c, hc⟩ := cL_get h x (.head _)
    exact cE_noSet hc op
  | [op], [], _, _ => rfl
  | [op], x :: y :: r, ces, h => by
    cases k with
    | zero => unfold cL at h; cases h
    | succ k =>
      obtain ⟨_, c, d, h1, h2, rfl⟩ := cL_cons h
      show lastMarks [] (y :: r) = false
      exact marks_none h2
  | _ :: o :: ops, [], _, _ => rfl
  | _ :: o :: ops, x :: r, ces, h => by
    cases k with
    | zero => unfold cL at h; cases h
    | succ k =>
      obtain ⟨_, c, d, h1, h2, rfl⟩ := cL_cons h
      cases r with
      | nil => simp [lastMarks]
      | cons y r => show lastMarks (o :: ops) (y :: r) = false; exact marks_none h2

theorem Post.tok {α β : Type} {R : List Addr → α → β → Prop} {Q : β → Shared → Prop} {r : RE α} {h' : Heap} {tk tk' : Nat} (h : Post Z ex fs L m R μ { s with heap := h', toks := tk } Q E r) : Post Z ex fs L m R μ { s with heap := h', toks := tk' } Q E r :=
  Post.up (s := { s with heap := h', toks := tk }) (Pre.refl _) h

/-- the links of a comparison, as a value -/
def HC (Z : Cx) (G : Str → Option AV) (X : IX) (A : Around) (fuel : Nat) : Prop :=
  ∀ {Sc : Mini.Sc} {env : Env} {cl : List (Str × Addr)} {γ : List (Str × Nat)} {ρ : Loc} {ex : List (Addr × Obj)} {fs : List (Addr × Data)} {L : Addr} {m : Str → Option Value} {μ : List Addr} {σ : Store} {s : Shared} {E : Value → Shared → Prop} {xs : List Expr} {ces : CL} {ops : List CmpOp} {pos : Pos} {v : AV} {cv : Value},
    cL Sc fuel xs = some ces → ops.length = xs.length → St Z G Sc env cl γ ρ ex fs L m μ σ s → VR μ v cv →
    (∀ {Q : Value → Shared → Prop}, Post Z ex fs L m VR μ s Q E (evalC X γ ρ v ops ces σ) → wpAny (model Z.prog Z.w) A (compareChain pos cv ops (evalEach xs env)) Q E s) ∧
    (∀ {Q : Bool → Shared → Prop}, Post Z ex fs L m (fun _ (a b : Bool) => a = b) μ s Q E ((evalC X γ ρ v ops ces σ).bind fun c σ => lift (truthy σ c) σ) → wpAny (model Z.prog Z.w) A (testChain pos cv ops (evalEach xs env)) Q E s)

theorem bind_assoc {α β δ : Type} (r : RE α) (f : α → Store → RE β) (g : β → Store → RE δ) : (r.bind f).bind g = r.bind fun a σ => (f a σ).bind g := by cases r <;> rfl
theorem bind_ite {α β : Type} (b : Bool) (x y : RE α) (f : α → Store → RE β) : (if b then x else y).bind f = if b then x.bind f else y.bind f := by cases b <;> rfl

theorem truthy_det {v : AV} {b : Bool} (h : truthy σ v = some b) : (lift (truthy σ v) σ) = RE.ok b σ := by rw [h]; rfl

theorem hc_step {k : Nat} (O : Ok Z G) (XO : XOk Z X n) (hr : RoomB n A) (he : HE Z G X A k) (hc : HC Z G X A k) : HC Z G X A (k + 1) := by
  intro Sc env cl γ ρ ex fs L m μ σ s E xs ces ops pos v cv c hlen T rv
  match xs, ops, hlen with
  | [], [], _ =>
    cases cL_nil c
    exact ⟨fun h => by unfold evalC at h; exact h.elim, fun h => by unfold evalC at h; exact h.elim⟩
  | [x], [op], _ =>
    obtain ⟨hx, c1, d, h1, h2, rfl⟩ := cL_cons c
    cases k with
    | zero => unfold cL at h2; cases h2
    | succ k =>
      cases cL_nil h2
      refine ⟨fun h => ?_, fun h => ?_⟩
      · unfold evalC at h
        exact chain_last (he h1 T (h.bind fun w σ' μ' cw h' tk _ p S rw' h3 => cmpM_snd O XO hr S (rv.mono p) rw' h3))
      · unfold evalC at h
        rw [bind_assoc] at h
        refine test_last (he h1 T (h.bind fun w σ' μ' cw h' tk _ p S rw' h3 => cmpM_snd O XO hr S (rv.mono p) rw' (h3.bind fun t σ'' μ'' ct h'' tk' _ p' S' rt h4 => ?_)))
        cases ht : truthy σ'' t with
        | none => rw [ht] at h4; exact h4.elim
        | some b => rw [ht] at h4; exact truthy_snd S' rt ht fun tk => h4.ok' S' rfl
  | x :: y :: r, op :: op' :: ops, hlen =>
    obtain ⟨hx, c1, d, h1, h2, rfl⟩ := cL_cons c
    show (∀ {Q : Value → Shared → Prop}, _ → wpAny _ A (compareChain pos cv (op :: op' :: ops) (eval x env :: eval y env :: evalEach r env)) Q E s) ∧
      (∀ {Q : Bool → Shared → Prop}, _ → wpAny _ A (testChain pos cv (op :: op' :: ops) (eval x env :: eval y env :: evalEach r env)) Q E s)
    have hlen' : (op' :: ops).length = (y :: r).length := by simpa using hlen
    refine ⟨fun h => ?_, fun h => ?_⟩
    · unfold evalC at h
      refine chain_link (he h1 T (h.bind fun w σ' μ' cw h' tk _ p S rw' h3 => cmpM_snd O XO hr S (rv.mono p) rw' (h3.bind fun t σ'' μ'' ct h'' tk' _ p' S' rt h4 => ?_)))
      obtain ⟨b, hb, h4⟩ := h4.lift
      refine truthy_snd S' rt hb fun tk => ?_
      cases b with
      | false => exact h4.ok' S' rt
      | true => exact (hc h2 hlen' ((T.next p S).next p' S') (rw'.mono p')).1 h4.tok
    · unfold evalC at h
      rw [bind_assoc] at h
      refine test_link (he h1 T (h.bind fun w σ' μ' cw h' tk _ p S rw' h3 => cmpM_snd O XO hr S (rv.mono p) rw' ?_))
      rw [bind_assoc] at h3
      refine h3.bind fun t σ'' μ'' ct h'' tk' _ p' S' rt h4 => ?_
      rw [bind_assoc] at h4
      obtain ⟨b, hb, h4⟩ := h4.lift
      refine truthy_snd S' rt hb fun tk => ?_
      cases b with
      | false =>
        have h4 : Post _ _ _ _ _ _ _ _ _ _ (lift (truthy σ'' t) σ'') := h4
        rw [hb] at h4
        exact h4.ok' S' rfl
      | true => exact (hc h2 hlen' ((T.next p S).next p' S') (rw'.mono p')).2 h4.tok

theorem snd_compare {k : Nat} (he : HE Z G X A k) (hc : HC Z G X A k) {a : Expr} {ops : List CmpOp} {xs : List Expr} {pos : Pos} {ca : CE} {ces : CL} {Q : Value → Shared → Prop} (h1 : cE Sc k a = some ca) (h2 : cL Sc k xs = some ces) (hlen : ops.length = xs.length)
    (T : St Z G Sc env cl γ ρ ex fs L m μ σ s) (h : Post Z ex fs L m VR μ s Q E (evalE X γ ρ (.cmp ca ops ces) σ)) : wpAny (model Z.prog Z.w) A (eval (.Compare a ops xs pos) env) Q E s := by
  rw [evalE] at h
  show wpAny _ A (do compareChain pos (← eval a env) ops (markedEach ops xs (evalEach xs env))) Q E s
  rw [markedEach_of_false _ _ _ (marks_none h2)]
  exact wpAny_bind (he h1 T (h.bind fun v σ' μ' cv h' tk _ p S rv h3 => (hc h2 hlen (T.next p S) rv).1 h3))

theorem tr_compare {k : Nat} (he : HE Z G X A k) (hc : HC Z G X A k) {a : Expr} {ops : List CmpOp} {xs : List Expr} {pos : Pos} {ca : CE} {ces : CL} {whole : Sem Value} {Q : Bool → Shared → Prop} (h1 : cE Sc k a = some ca) (h2 : cL Sc k xs = some ces) (hlen : ops.length = xs.length)
    (T : St Z G Sc env cl γ ρ ex fs L m μ σ s) (h : Post Z ex fs L m (fun _ (a b : Bool) => a = b) μ s Q E (evalT X γ ρ (.cmp ca ops ces) σ)) : wpAny (model Z.prog Z.w) A (isTrue (.Compare a ops xs pos) env whole) Q E s := by
  unfold evalT at h
  rw [evalE, bind_assoc] at h
  show wpAny _ A (do testChain pos (← eval a env) ops (markedEach ops xs (evalEach xs env))) Q E s
  rw [markedEach_of_false _ _ _ (marks_none h2)]
  exact wpAny_bind (he h1 T (h.bind fun v σ' μ' cv h' tk _ p S rv h3 => (hc h2 hlen (T.next p S) rv).2 h3))

theorem Post.truth {α' β' : Type} {R' : List Addr → α' → β' → Prop} {Q : β' → Shared → Prop} {Q' : Bool → Shared → Prop} {r : RE AV} {f : AV → Store → RE α'} (hp : Post Z ex fs L m R' μ s Q E (r.bind f))
    (hf : ∀ v σ', truthy σ' v = none → f v σ' = .bad)
    (k : ∀ v σ' μ' h' tk b, truthy σ' v = some b → Pre μ μ' → SR Z ex fs L m μ' σ' h' → Post Z ex fs L m R' μ' { s with heap := h', toks := tk } Q E (f v σ') → Q' b { s with heap := h', toks := tk }) :
    Post Z ex fs L m (fun _ (a b : Bool) => a = b) μ s Q' E (r.bind fun v σ => Mini.lift (truthy σ v) σ) := by
  cases r with
  | bad => exact hp
  | exc k' σ' => exact hp
  | ok v σ' =>
    show Post _ _ _ _ _ _ _ _ _ _ (Mini.lift (truthy σ' v) σ')
    have hp : Post Z ex fs L m R' μ s Q E (f v σ') := hp
    cases ht : truthy σ' v with
    | none => rw [hf _ _ ht] at hp; exact hp.elim
    | some b =>
      intro μ' b' h' tk p S e
      cases e
      exact k v σ' μ' h' tk b ht p S (Post.up p hp)

/-- the parts of «and», «or» -/
def HB (Z : Cx) (G : Str → Option AV) (X : IX) (A : Around) (fuel : Nat) : Prop :=
  ∀ {Sc : Mini.Sc} {env : Env} {cl : List (Str × Addr)} {γ : List (Str × Nat)} {ρ : Loc} {ex : List (Addr × Obj)} {fs : List (Addr × Data)} {L : Addr} {m : Str → Option Value} {μ : List Addr} {σ : Store} {s : Shared} {E : Value → Shared → Prop} {xs : List Expr} {ces : CL} {op : BoolOp},
    cL Sc fuel xs = some ces → St Z G Sc env cl γ ρ ex fs L m μ σ s →
    (∀ {pos : Pos} {Q : Value → Shared → Prop}, Post Z ex fs L m VR μ s Q E (evalB X γ ρ op ces σ) → wpAny (model Z.prog Z.w) A (eval (.BoolOp op xs pos) env) Q E s) ∧
    (∀ {Q : Bool → Shared → Prop}, Post Z ex fs L m (fun _ (a b : Bool) => a = b) μ s Q E ((evalB X γ ρ op ces σ).bind fun c σ => Mini.lift (truthy σ c) σ) → wpAny (model Z.prog Z.w) A (allTrue op xs env) Q E s)

theorem hb_step {k : Nat} (he : HE Z G X A k) (ht : HTr Z G X A k) (hb : HB Z G X A k) : HB Z G X A (k + 1) := by
  intro Sc env cl γ ρ ex fs L m μ σ s E xs ces op c T
  match xs with
  | [] =>
    cases cL_nil c
    exact ⟨fun h => by rw [evalB] at h; exact h.elim, fun h => by rw [evalB] at h; exact h.elim⟩
  | [x] =>
    obtain ⟨hx, c1, d, h1, h2, rfl⟩ := cL_cons c
    cases k with
    | zero => unfold cL at h2; cases h2
    | succ k =>
      cases cL_nil h2
      refine ⟨fun h => ?_, fun {Q} h => ?_⟩
      · rw [evalB] at h
        exact BoolOp_one (he h1 T h)
      · rw [evalB] at h
        have h' : wpAny (model Z.prog Z.w) A (isTrue x env (eval x env)) Q E s := ht h1 T h
        cases op with
        | And => exact wpAny_allTrue_And_cons (wpAny_mono h' (fun b s₁ hq => by cases b <;> first | exact hq | exact wpAny_allTrue_And_nil hq) fun _ _ e => e)
        | Or => exact wpAny_allTrue_Or_cons (wpAny_mono h' (fun b s₁ hq => by cases b <;> first | exact wpAny_allTrue_Or_nil hq | exact hq) fun _ _ e => e)
  | x :: y :: r =>
    obtain ⟨hx, c1, d, h1, h2, rfl⟩ := cL_cons c
    obtain ⟨c2, d2, rfl⟩ : ∃ c2 d2, d = .cons c2 d2 := by
      cases k with
      | zero => unfold cL at h2; cases h2
      | succ k => obtain ⟨_, c2, d2, _, _, rfl⟩ := cL_cons h2; exact ⟨c2, d2, rfl⟩
    refine ⟨fun h => ?_, fun {Q} h => ?_⟩
    · rw [evalB] at h
      cases op with
      | And =>
        refine BoolOp_and (he h1 T (h.bind fun v σ' μ' cv h' tk _ p S rv h3 => ?_))
        obtain ⟨b, hb', h3⟩ := h3.lift
        refine truthy_snd S rv hb' fun tk => ?_
        cases b
        · exact h3.ok' S rv
        · exact (hb h2 (T.next p S)).1 h3.tok
      | Or =>
        refine BoolOp_or (he h1 T (h.bind fun v σ' μ' cv h' tk _ p S rv h3 => ?_))
        obtain ⟨b, hb', h3⟩ := h3.lift
        refine truthy_snd S rv hb' fun tk => ?_
        cases b
        · exact (hb h2 (T.next p S)).1 h3.tok
        · exact h3.ok' S rv
    · rw [evalB, bind_assoc] at h
      cases op with
      | And =>
        refine wpAny_allTrue_And_cons (ht h1 T (h.truth (fun v σ' hn => by rw [hn]; rfl) fun v σ' μ' h' tk b hb' p S h3 => ?_))
        rw [bind_assoc, hb'] at h3
        cases b
        · have h3 : Post _ _ _ _ _ _ _ _ _ _ (Mini.lift (truthy σ' v) σ') := h3
          rw [hb'] at h3
          exact h3.ok0 S rfl
        · exact (hb h2 (T.next p S)).2 h3
      | Or =>
        refine wpAny_allTrue_Or_cons (ht h1 T (h.truth (fun v σ' hn => by rw [hn]; rfl) fun v σ' μ' h' tk b hb' p S h3 => ?_))
        rw [bind_assoc, hb'] at h3
        cases b
        · exact (hb h2 (T.next p S)).2 h3
        · have h3 : Post _ _ _ _ _ _ _ _ _ _ (Mini.lift (truthy σ' v) σ') := h3
          rw [hb'] at h3
          exact h3.ok0 S rfl
end
end Mini

end

section
set_option autoImplicit false
namespace Mini
open PySem PySem.W PySem.Calls PyProof PyProof.Rows PyProof.V PySem.Spec PySem.SeqAt

section
variable {Z : Cx} {G : Str → Option AV} {Sc : Mini.Sc} {env : Env} {cl : List (Str × Addr)} {γ : List (Str × Nat)} {ρ : Loc} {ex : List (Addr × Obj)} {fs : List (Addr × Data)} {L : Addr} {m : Str → Option Value} {μ : List Addr} {σ : Store} {s : Shared} {A : Around} {E : Value → Shared → Prop} {X : IX} {n : Nat}

theorem star_none {k : Nat} {pos : Pos} : ∀ {xs : List Expr} {ces : CL}, cL Sc k xs = some ces → (backTo pos (starEach xs env)).any (·.1) = false
  | [], _, _ => rfl
  | x :: r, ces, h => by
    cases k with
    | zero => unfold cL at h; cases h
    | succ k =>
      obtain ⟨hx, c, d, h1, h2, rfl⟩ := cL_cons h
      rw [starEach_cons hx]
      show (false || (backTo pos (starEach r env)).any (·.1)) = false
      rw [star_none h2]; rfl
theorem star_len {k : Nat} {pos : Pos} : ∀ {xs : List Expr} {ces : CL}, cL Sc k xs = some ces → (backTo pos (starEach xs env)).length = xs.length
  | [], _, _ => rfl
  | x :: r, ces, h => by
    cases k with
    | zero => unfold cL at h; cases h
    | succ k =>
      obtain ⟨hx, c, d, h1, h2, rfl⟩ := cL_cons h
      rw [starEach_cons hx]
      show (backTo pos (starEach r env)).length + 1 = _
      rw [star_len h2]; rfl

theorem cKw_cons {k : Nat} {kw : Keyword} {r : List Keyword} {q : List Str × CL} (h : cKw Sc (k + 1) (kw :: r) = some q) : ∃ x e p c d, kw = ⟨some x, e, p⟩ ∧ cE Sc k e = some c ∧ cKw Sc k r = some d ∧ q = (x :: d.1, .cons c d.2) := by
  obtain ⟨x, e, p⟩ := kw
  unfold cKw at h
  cases x with
  | none => cases h
  | some x =>
  rw [Option.bind_some] at h
  obtain ⟨c, hc, h⟩ := Option.bind_eq_some_iff.mp h
  obtain ⟨d, hd, rfl⟩ := Option.map_eq_some_iff.mp h
  exact ⟨x, e, p, c, d, rfl, hc, hd, rfl⟩
theorem cKw_nil {k : Nat} {q : List Str × CL} (h : cKw Sc (k + 1) [] = some q) : q = ([], .nil) := by
  unfold cKw at h; cases h; rfl

theorem kw_named {k : Nat} {pos : Pos} : ∀ {kws : List Keyword} {q : List Str × CL}, cKw Sc k kws = some q →
    (backToKw pos (keywordEach kws env)).all (·.1.isSome) = true ∧ (backToKw pos (keywordEach kws env)).any (·.1.isNone) = false ∧ (backToKw pos (keywordEach kws env)).filterMap (·.1) = q.1
  | [], q, h => by
    cases k with
    | zero => unfold cKw at h; cases h
    | succ k => rw [cKw_nil h]; exact ⟨rfl, rfl, rfl⟩
  | kw :: r, q, h => by
    cases k with
    | zero => unfold cKw at h; cases h
    | succ k =>
      obtain ⟨x, e, p, c, d, rfl, h1, h2, rfl⟩ := cKw_cons h
      obtain ⟨a, b, c⟩ := kw_named (pos := pos) h2
      refine ⟨?_, ?_, ?_⟩
      · show (true && (backToKw pos (keywordEach r env)).all (·.1.isSome)) = true; rw [a]; rfl
      · show (false || (backToKw pos (keywordEach r env)).any (·.1.isNone)) = false; rw [b]; rfl
      · show x :: (backToKw pos (keywordEach r env)).filterMap (·.1) = _; rw [c]

def HK (Z : Cx) (G : Str → Option AV) (X : IX) (A : Around) (fuel : Nat) : Prop :=
  ∀ {Sc : Mini.Sc} {env : Env} {cl : List (Str × Addr)} {γ : List (Str × Nat)} {ρ : Loc} {ex : List (Addr × Obj)} {fs : List (Addr × Data)} {L : Addr} {m : Str → Option Value} {μ : List Addr} {σ : Store} {s : Shared} {E : Value → Shared → Prop} {kws : List Keyword} {q : List Str × CL} {pos : Pos} {Q : List Value → Shared → Prop},
    cKw Sc fuel kws = some q → St Z G Sc env cl γ ρ ex fs L m μ σ s → Post Z ex fs L m VRs μ s Q E (evalL X γ ρ q.2 σ) → wpAny (model Z.prog Z.w) A (evalAll ((backToKw pos (keywordEach kws env)).map (·.2))) Q E s

theorem hk_step {k : Nat} (he : HE Z G X A k) (hk : HK Z G X A k) : HK Z G X A (k + 1) := by
  intro Sc env cl γ ρ ex fs L m μ σ s E kws q pos Q c T h
  cases kws with
  | nil =>
    cases cKw_nil c
    rw [evalL] at h
    exact wpAny_evalAll_nil (h.ok0 T.sr .nil)
  | cons kw r =>
    obtain ⟨x, e, p, c1, d, rfl, h1, h2, rfl⟩ := cKw_cons c
    rw [evalL] at h
    show wpAny _ A (evalAll ((do let v ← eval e env; standAt pos; pure v) :: (backToKw pos (keywordEach r env)).map (·.2))) Q E s
    refine wpAny_evalAll_cons (wpAny_bind (he h1 T (h.bind fun v σ' μ' b h' tk _ p S rv h3 => wpAny_bind (wpAny_standAt (wpAny_pure (hk h2 (T.next p S) (h3.bind fun vs σ'' μ'' bs h'' tk' _ p' S' rvs h4 => ?_)))))))
    exact h4.ok (tk := tk') S' (.cons (rv.mono p') rvs)

/-- the arguments of a call -/
theorem args_snd {k : Nat} (hl : HL Z G X A k) (hk : HK Z G X A k) {f : Value} {xs : List Expr} {ces : CL} {kws : List Keyword} {q : List Str × CL} {pos : Pos} {Q : Args → Shared → Prop} (h1 : cL Sc k xs = some ces) (h2 : cKw Sc k kws = some q)
    (T : St Z G Sc env cl γ ρ ex fs L m μ σ s) {R : List AV → List AV → Store → RE AV} {Q₀ : Value → Shared → Prop}
    (h : Post Z ex fs L m VR μ s Q₀ E ((evalL X γ ρ ces σ).bind fun vs σ => (evalL X γ ρ q.2 σ).bind fun ks σ => R vs ks σ))
    (hQ : ∀ vs ks cvs cks σ' μ' h' tk, Pre μ μ' → SR Z ex fs L m μ' σ' h' → VRs μ' vs cvs → VRs μ' ks cks → Post Z ex fs L m VR μ' { s with heap := h', toks := tk } Q₀ E (R vs ks σ') → Q ⟨cvs, q.1.zip cks⟩ { s with heap := h', toks := tk }) :
    wpAny (model Z.prog Z.w) A (evalArgs f true (backTo pos (starEach xs env)) (backToKw pos (keywordEach kws env))) Q E s := by
  obtain ⟨n1, n2, n3⟩ := kw_named (env := env) (pos := pos) h2
  cases xs with
  | nil =>
    cases k with
    | zero => unfold cL at h1; cases h1
    | succ k =>
      cases cL_nil h1
      rw [evalL] at h
      refine evalArgs_kw_nil n1 (hk h2 T (Post.bind (f := fun ks σ => R [] ks σ) h fun ks σ' μ' cks h' tk _ p S rks h4 => ?_))
      rw [n3]
      exact hQ [] ks [] cks σ' μ' h' tk p S .nil rks h4
  | cons x r =>
    have main : wpAny (model Z.prog Z.w) A (spliced (backTo pos (starEach (x :: r) env))) (fun vs s₁ => wpAny (model Z.prog Z.w) A (evalAll ((backToKw pos (keywordEach kws env)).map (·.2))) (fun ks s₂ => Q ⟨vs, ((backToKw pos (keywordEach kws env)).filterMap (·.1)).zip ks⟩ s₂) E s₁) E s :=
      hl h1 T (h.bind fun vs σ' μ' cvs h' tk _ p S rvs h3 => hk h2 (T.next p S) (h3.bind fun ks σ'' μ'' cks h'' tk' _ p' S' rks h4 => by
        rw [n3]
        exact hQ vs ks cvs cks σ'' μ'' h'' tk' (p.trans p') S' (rvs.mono p') rks h4))
    cases k with
    | zero => unfold cL at h1; cases h1
    | succ k =>
      obtain ⟨hx, _⟩ := cL_cons h1
      have e0 : backTo pos (starEach (x :: r) env) = (false, eval x env) :: backTo pos (starEach r env) := by rw [starEach_cons hx]; rfl
      rw [e0] at main ⊢
      exact evalArgs_kw n1 main

theorem zip_kv {ns : List Str} : ∀ {ks : List AV} {cks : List Value}, VRs μ ks cks → KVs μ (ns.zip ks) (ns.zip cks) := by
  induction ns with
  | nil => intro ks cks _; exact .nil
  | cons x r ih =>
    intro ks cks h
    cases h with
    | nil => exact .nil
    | cons a b => exact .cons ⟨rfl, a⟩ (ih b)

theorem snd_call {k : Nat} (O : Ok Z G) (XO : XOk Z X n) (hr : RoomB n A) (he : HE Z G X A k) (hl : HL Z G X A k) (hk : HK Z G X A k) {f : Expr} {xs : List Expr} {kws : List Keyword} {pos : Pos} {cf : CE} {ces : CL} {q : List Str × CL} {Q : Value → Shared → Prop}
    (h1 : cE Sc k f = some cf) (h2 : cL Sc k xs = some ces) (h3 : cKw Sc k kws = some q) (hf : ∀ o x p, f ≠ .Attribute o x p) (T : St Z G Sc env cl γ ρ ex fs L m μ σ s)
    (h : Post Z ex fs L m VR μ s Q E (evalE X γ ρ (.call cf ces q.1 q.2) σ)) : wpAny (model Z.prog Z.w) A (eval (.Call f xs kws pos) env) Q E s := by
  rw [evalE] at h
  have e0 : eval (.Call f xs kws pos) env = (do callWith pos (← eval f env) [] (backTo pos (starEach xs env)) (backToKw pos (keywordEach kws env))) := by
    cases f <;> first | rfl | exact absurd rfl (hf _ _ _)
  rw [e0]
  refine wpAny_bind (he h1 T (h.bind fun v σ' μ' cv h' tk _ p S rv h4 => ?_))
  obtain ⟨n1, n2, n3⟩ := kw_named (env := env) (pos := pos) h3
  refine callWith_of (P := fun H => ∃ k, (k = Keeper.frame ∨ k = Keeper.machine ∨ k = Keeper.boundFrame) ∧ Looks (model Z.prog Z.w) H (keeperOf cv) k) (by rw [star_none h2, n2]; rfl) (fun _ x => x)
    (args_snd hl hk h2 h3 (T.next p S) (R := fun vs ks σ => callM X v vs (q.1.zip ks) σ) h4 fun vs ks cvs cks σ'' μ'' h'' tk' p' S' rvs rks h5 => ?_)
  exact callM_snd (s := { s with heap := h'', toks := tk' }) O XO hr.toRoom S' (rv.mono p') rvs (zip_kv rks) h5

theorem snd_meth {k : Nat} (O : Ok Z G) (XO : XOk Z X n) (hr : RoomB n A) (he : HE Z G X A k) (hl : HL Z G X A k) (hk : HK Z G X A k) {o : Expr} {x : Str} {ap : Pos} {xs : List Expr} {kws : List Keyword} {pos : Pos} {co : CE} {ces : CL} {q : List Str × CL} {Q : Value → Shared → Prop}
    (hp : (plainBase o && ap.endLine == pos.line && decide (xs.length + kws.length < 28)) = true)
    (h1 : cE Sc k o = some co) (h2 : cL Sc k xs = some ces) (h3 : cKw Sc k kws = some q) (T : St Z G Sc env cl γ ρ ex fs L m μ σ s)
    (h : Post Z ex fs L m VR μ s Q E (evalE X γ ρ (.meth co x ces q.1 q.2) σ)) : wpAny (model Z.prog Z.w) A (eval (.Call (.Attribute o x ap) xs kws pos) env) Q E s := by
  rw [evalE] at h
  rw [Bool.and_eq_true, Bool.and_eq_true, decide_eq_true_eq] at hp
  obtain ⟨⟨p1, p2⟩, p3⟩ := hp
  obtain ⟨n1, n2, n3⟩ := kw_named (env := env) (pos := pos) h3
  have hb : attributeBase o x env (eval o env) = eval o env := by
    unfold attributeBase
    cases o <;> try rfl
    rename_i f es kws p
    cases f <;> try rfl
    cases es <;> try rfl
    cases kws <;> try rfl
    simp [plainBase] at p1
  have hform : methodCallForm (xs.length + kws.length) (backTo pos (starEach xs env)) (backToKw pos (keywordEach kws env)) = true := by
    unfold methodCallForm
    have : (backTo pos (starEach xs env)).all (!·.1) = true := by
      have := star_none (env := env) (pos := pos) h2
      rw [List.all_eq_true]
      intro y hy
      cases hq : y.1 with
      | false => rfl
      | true => rw [List.any_eq_false] at this; exact absurd hq (this y hy)
    rw [this, n1]
    simp only [Bool.true_and, decide_eq_true_eq]
    split <;> omega
  show wpAny _ A (do
    let ov ← attributeBase o x env (eval o env)
    standAt ap.atName
    methodCall o x ap pos env ov (xs.length + kws.length) (backTo pos (starEach xs env)) (backToKw pos (keywordEach kws env))) Q E s
  rw [hb]
  refine wpAny_bind (he h1 T (h.bind fun v σ' μ' cv h' tk _ p S rv h4 => wpAny_bind (wpAny_standAt ?_)))
  obtain ⟨mv, hmv, h4⟩ := h4.lift
  unfold methodCall methodCallPos
  rw [hform]
  refine wpAny_bind (wpAny_holding ?_)
  show wpAny _ A (getMethod cv x _) _ _ _
  refine findM_snd O XO S rv hmv fun hok => ?_
  have e1 : (!true || ap.endLine == pos.line) = true := by rw [p2]; rfl
  simp only [e1, if_true]
  refine wpAny_bind (wpAny_pure ?_)
  refine callWith_of (P := fun H => ∃ k, (k = Keeper.frame ∨ k = Keeper.machine ∨ k = Keeper.boundFrame) ∧ Looks (model Z.prog Z.w) H (keeperOf (mvVal mv)) k) (by rw [star_none h2, n2]; rfl) (fun _ x => x)
    (args_snd hl hk h2 h3 (T.next p S) (R := fun vs ks σ => methM X mv v x vs (q.1.zip ks) σ) h4 fun vs ks cvs cks σ'' μ'' h'' tk' p' S' rvs rks h5 => ?_)
  exact ⟨hok.keeper O S'.fr.keep, methM_snd (s := { s with heap := h'', toks := tk' }) O XO hr.toRoom S' hok (rv.mono p') rvs (zip_kv rks) h5⟩

theorem part_snd {v : AV} {cv : Value} {o : Option Int} (r : VR μ v cv) (h : partA v = some o) : IsPart cv o := by
  cases v <;> cases h
  · cases r; exact .none
  · obtain ⟨t, rfl⟩ := r; exact .int _ _

theorem pick_rel {xs : List AV} {vs : Array Value} (r : VRs μ xs vs.toList) (hsz : vs.size = xs.length) (lo hi st : Option Int) : VRs μ (pickA xs lo hi st) (slicePick vs lo hi st).toList := by
  unfold pickA slicePick
  rw [hsz]
  generalize sliceRange (sliceBounds lo hi st xs.length).1 (sliceBounds lo hi st xs.length).2.1 (sliceBounds lo hi st xs.length).2.2 = l
  rw [List.toList_toArray]
  induction l with
  | nil => exact .nil
  | cons i l ih =>
    simp only [List.filterMap_cons]
    by_cases hi : i < xs.length
    · have h1 : xs[i]? = some xs[i] := by simp [hi]
      obtain ⟨w, h2, h3⟩ := r.get h1
      rw [Array.getElem?_toList] at h2
      rw [h1, h2]
      exact .cons h3 ih
    · have h1 : xs[i]? = none := by simp; omega
      have h2 : vs[i]? = none := by simp; omega
      rw [h1, h2]
      exact ih

theorem opt_snd {k : Nat} (he : HE Z G X A k) {e : Option Expr} {c : CE} {Q : Value → Shared → Prop} (h1 : cO Sc (k + 1) e = some c) (T : St Z G Sc env cl γ ρ ex fs L m μ σ s) (h : Post Z ex fs L m VR μ s Q E (evalE X γ ρ c σ)) :
    wpAny (model Z.prog Z.w) A (evalPart e env) Q E s := by
  cases e with
  | none =>
    unfold cO at h1
    cases h1
    rw [evalE] at h
    exact wpAny_evalPart_none (h.ok0 T.sr rfl)
  | some e =>
    unfold cO at h1
    exact wpAny_evalPart_some (he h1 T h)

def HO (Z : Cx) (G : Str → Option AV) (X : IX) (A : Around) (fuel : Nat) : Prop :=
  ∀ {Sc : Mini.Sc} {env : Env} {cl : List (Str × Addr)} {γ : List (Str × Nat)} {ρ : Loc} {ex : List (Addr × Obj)} {fs : List (Addr × Data)} {L : Addr} {m : Str → Option Value} {μ : List Addr} {σ : Store} {s : Shared} {E : Value → Shared → Prop} {e : Option Expr} {c : CE} {Q : Value → Shared → Prop},
    cO Sc fuel e = some c → St Z G Sc env cl γ ρ ex fs L m μ σ s → Post Z ex fs L m VR μ s Q E (evalE X γ ρ c σ) → wpAny (model Z.prog Z.w) A (evalPart e env) Q E s

theorem snd_slice {k : Nat} (he : HE Z G X A k) (ho : HO Z G X A k) {a : Expr} {lo hi st : Option Expr} {sp pos : Pos} {ca cl' ch cs : CE} {Q : Value → Shared → Prop} (h1 : cE Sc k a = some ca) (h2 : cO Sc k lo = some cl') (h3 : cO Sc k hi = some ch) (h4 : cO Sc k st = some cs)
    (T : St Z G Sc env cl γ ρ ex fs L m μ σ s) (h : Post Z ex fs L m VR μ s Q E (evalE X γ ρ (.slc ca cl' ch cs) σ)) : wpAny (model Z.prog Z.w) A (eval (.Subscript a (.Slice lo hi st sp) pos) env) Q E s := by
  rw [evalE] at h
  refine Subscript_ (he h1 T (h.bind fun v σ1 μ1 cv h1' t1 _ p1 S1 rv k1 => ?_))
  refine wpAny_Slice (ho h2 (T.next p1 S1) (k1.bind fun l σ2 μ2 cvl h2' t2 _ p2 S2 rl k2 => ho h3 ((T.next p1 S1).next p2 S2) (k2.bind fun u σ3 μ3 cvu h3' t3 _ p3 S3 ru k3 => ho h4 (((T.next p1 S1).next p2 S2).next p3 S3) (k3.bind fun w σ4 μ4 cvw h4' t4 _ p4 S4 rw' k4 => ?_))))
  have rv' := rv.mono ((p2.trans p3).trans p4)
  have rl' := rl.mono (p3.trans p4)
  have ru' := ru.mono p4
  clear k1 k2 k3 h rv rl ru
  unfold sliceM at k4
  split at k4
  · rename_i e1 e2 e3 _
    split at k4
    · exact k4.elim
    · rename_i hst
      split at k4
      · rename_i xs hj
        obtain ⟨a', ha, rfl⟩ := rv'
        obtain ⟨ob, g, r⟩ := S4.at' hj ha
        obtain ⟨vs, hl, r, hsz, hz⟩ := r.isList g
        have hl' : (h4'.push { cls := Value.type "slice", data := Data.fields #[cvl, cvu, cvw] }).IsList a' vs := by
          obtain ⟨o, x1, x2, x3⟩ := hl
          exact ⟨o, Heap.get?_push_of_some _ x1, x2, x3⟩
        have S5 := S4.push { cls := Value.type "slice", data := Data.fields #[cvl, cvu, cvw] }
        unfold allocL at k4
        split at k4
        · rename_i hlen
          refine tail_any (T := "list") (ops := if st.isNone then [.ref h4'.objs.size, .ref a'] else [.ref a', .ref h4'.objs.size]) hl'.typeIs slot_list_getitem.lookup
            (wpAny_getItem_list_slice hl' (Heap.IsSliceOf.new _ _ _ _) (part_snd rl' e1) (part_snd ru' e2) (part_snd rw' e3) (by simpa using hst) ?_ (by have := lim_line; omega)) (by cases st <;> rfl)
          exact k4 _ _ _ _ (Pre.add _ _) (S5.alloc (ob := { cls := .type "list", data := .seq (slicePick vs _ _ _) }) rfl ⟨Nat.le_of_lt hlen, _, 0, rfl, (pick_rel r hsz _ _ _).mono (Pre.add _ _)⟩) (VR.last S5 _)
        · exact k4.elim
      · exact k4.elim
  · exact k4.elim

theorem snd_const {c : Const} {kd : Nat} {pos : Pos} {v : AV} {Q : Value → Shared → Prop} (h1 : constA c = some v) (T : St Z G Sc env cl γ ρ ex fs L m μ σ s) (h : Post Z ex fs L m VR μ s Q E (.ok v σ)) :
    wpAny (model Z.prog Z.w) A (eval (.Constant c kd pos) env) Q E s := by
  refine wpAny_eval_const (by cases c <;> first | rfl | cases h1) fun cv tk hv => h.ok' T.sr ?_
  cases c <;> cases h1 <;> exact hv

theorem snd_dict0 {pos : Pos} {Q : Value → Shared → Prop} (T : St Z G Sc env cl γ ρ ex fs L m μ σ s) (h : Post Z ex fs L m VR μ s Q E (alloc (.dict []) σ)) : wpAny (model Z.prog Z.w) A (eval (.Dict [] [] pos) env) Q E s :=
  wpAny_Dict_empty (h.allocP (ob := { cls := .type "dict", data := .dict #[] }) (tk := s.toks) T.sr rfl ⟨⟨Nat.zero_le _, List.nodup_nil⟩, [], 0, rfl, .nil⟩)
end
end Mini

end

section
set_option autoImplicit false
namespace Mini
open PySem PySem.W PySem.Calls PyProof PyProof.Rows PyProof.V PySem.Spec PySem.SeqAt

section
variable {Z : Cx} {G : Str → Option AV} {Sc : Mini.Sc} {env : Env} {cl : List (Str × Addr)} {γ : List (Str × Nat)} {ρ : Loc} {ex : List (Addr × Obj)} {fs : List (Addr × Data)} {L : Addr} {m : Str → Option Value} {μ : List Addr} {σ : Store} {s : Shared} {A : Around} {E : Value → Shared → Prop} {X : IX} {n : Nat}

theorem tr_value {k : Nat} (he : HE Z G X A k) {x : Expr} {ce : CE} {Q : Bool → Shared → Prop} (c : cE Sc k x = some ce) (T : St Z G Sc env cl γ ρ ex fs L m μ σ s)
    (hx : isTrue x env (eval x env) = (do let v ← eval x env; standAt x.pos; holding [v] (PySem.truthy v))) (h : Post Z ex fs L m (fun _ (a b : Bool) => a = b) μ s Q E (evalT X γ ρ ce σ)) :
    wpAny (model Z.prog Z.w) A (isTrue x env (eval x env)) Q E s := by
  unfold evalT at h
  refine wpAny_isTrue_value (he c T (h.bind fun v σ' μ' cv h' tk _ p S rv h3 => ?_)) hx
  cases ht : truthy σ' v with
  | none => rw [ht] at h3; exact h3.elim
  | some b => rw [ht] at h3; exact truthy_snd S rv ht fun tk => h3.ok' S rfl

theorem htr_step {k : Nat} (he' : HE Z G X A (k + 1)) (he : HE Z G X A k) (ht : HTr Z G X A k) (hb : HB Z G X A k) (hc : HC Z G X A k) : HTr Z G X A (k + 1) := by
  intro Sc env cl γ ρ ex fs L m μ σ s E x ce Q c T h
  cases x with
  | UnaryOp op a pos =>
    cases op with
    | Not =>
      unfold cE at c
      obtain ⟨ca, h1, rfl⟩ := Option.map_eq_some_iff.mp c
      unfold evalT at h
      rw [evalE, bind_assoc] at h
      refine wpAny_isTrue_Not (ht h1 T (h.truth (fun v σ' hn => by rw [hn]; rfl) fun v σ' μ' h' tk b hb' p S h3 => ?_))
      rw [bind_assoc, hb'] at h3
      exact h3.ok0 S rfl
    | _ => exact tr_value he' c T rfl h
  | BoolOp op es pos =>
    unfold cE at c
    obtain ⟨ces, h1, rfl⟩ := Option.map_eq_some_iff.mp c
    unfold evalT at h
    rw [evalE] at h
    exact wpAny_isTrue_BoolOp ((hb h1 T).2 h)
  | Compare a ops es pos =>
    unfold cE at c
    have c : (if (ops.length != es.length) = true then none else (cE Sc k a).bind fun a => Option.map (a.cmp ops) (cL Sc k es)) = some ce := c
    split at c
    · cases c
    · rename_i hlen
      obtain ⟨ca, h1, c⟩ := Option.bind_eq_some_iff.mp c
      obtain ⟨ces, h2, rfl⟩ := Option.map_eq_some_iff.mp c
      exact tr_compare he hc h1 h2 (by simpa using hlen) T h
  | IfExp => unfold cE at c; cases c
  | _ => exact tr_value he' c T rfl h

/-- the state with one more object aside -/
theorem St.asideO (T : St Z G Sc env cl γ ρ ex fs L m μ σ s) {o : Obj} (hf : o.isFreed = false) : St Z G Sc env cl γ ρ ((s.heap.objs.size, o) :: ex) fs L m μ σ { s with heap := s.heap.push o } :=
  ⟨T.fe, T.sr.aside hf, T.fr, T.gr⟩

/-- a step with more aside, and what comes behind it -/
theorem Post.exB {ex' : List (Addr × Obj)} {α α' β β' : Type} {R : List Addr → α → β → Prop} {R' : List Addr → α' → β' → Prop} {Q : β' → Shared → Prop} {Q' : β → Shared → Prop} {E' : Value → Shared → Prop} {r : RE α} {f : α → Store → RE α'} {s' : Shared}
    (hp : Post Z ex fs L m R' μ s Q E (r.bind f))
    (k : ∀ v σ' μ' b h' tk, Pre μ μ' → SR Z ex' fs L m μ' σ' h' → R μ' v b → Post Z ex fs L m R' μ' { s with heap := h', toks := tk } Q E (f v σ') → Q' b { s' with heap := h', toks := tk }) :
    Post Z ex' fs L m R μ s' Q' E' r := by
  cases r with
  | ok v σ' => exact fun μ' b h' tk p S x => k v σ' μ' b h' tk p S x (Post.up p hp)
  | exc k' σ' => unfold RE.bind Post ExcPost at hp; exact hp.elim
  | bad => exact hp

theorem cKs_one {k : Nat} {e : Option Expr} {r : List (Option Expr)} {ces : CL} (h : cKs Sc (k + 1) (e :: r) = some ces) : ∃ x c d, e = some x ∧ cE Sc k x = some c ∧ cKs Sc k r = some d ∧ ces = .cons c d := by
  unfold cKs at h
  cases e with
  | none => cases h
  | some x =>
    rw [Option.bind_some] at h
    obtain ⟨c, hc, h⟩ := Option.bind_eq_some_iff.mp h
    obtain ⟨d, hd, rfl⟩ := Option.map_eq_some_iff.mp h
    exact ⟨x, c, d, rfl, hc, hd, rfl⟩

theorem snd_dict1 {k : Nat} (he : HE Z G X A k) {key val : Expr} {pos : Pos} {ck cv : CE} {Q : Value → Shared → Prop} (h1 : cE Sc k key = some ck) (h2 : cE Sc k val = some cv) (T : St Z G Sc env cl γ ρ ex fs L m μ σ s)
    (h : Post Z ex fs L m VR μ s Q E (evalE X γ ρ (.dict (.cons ck .nil) (.cons cv .nil)) σ)) : wpAny (model Z.prog Z.w) A (eval (.Dict [some key] [val] pos) env) Q E s := by
  rw [evalE] at h
  have hf : ({ cls := .type "dict", data := .dict #[] } : Obj).isFreed = false := rfl
  refine Dict_made (knd := intKind Z.prog Z.w) T.sr.fr rfl rfl (by simp) (by simp) fun F => ?_
  show wpAny _ A (do
    let kv ← eval key env
    let vv ← holding [kv] (do let x ← eval val env; standAt pos; pure x)
    return (kv, vv) :: (← holding [kv, vv] (evalPairs []))) _ E _
  obtain ⟨f1, f2, f3, f4, f5⟩ := T.sr.fresh
  have T' := T.asideO hf
  refine wpAny_bind (he (E := E) h1 T' (Post.exB (s' := { s with heap := s.heap.push { cls := .type "dict", data := .dict #[] } }) h fun kv σ1 μ1 ckv h1' t1 p1 S1 rk k1 => ?_))
  refine wpAny_bind (wpAny_holding (wpAny_bind (he (E := E) h2 (T'.next p1 S1) (Post.exB (s' := { s with heap := h1', toks := t1 }) k1 fun vv σ2 μ2 cvv h2' t2 p2 S2 rv k2 => wpAny_bind (wpAny_standAt (wpAny_pure ?_))))))
  refine wpAny_bind (wpAny_holding (wpAny_pure (wpAny_pure ?_)))
  split at k2
  · rename_i i
    obtain ⟨t, rfl⟩ := rk
    obtain ⟨e1, e2, e3, e4⟩ := S2.ex _ (.head _)
    refine ⟨[(i, cvv)], ⟨by show Value.isInt i (.int i t) = true; simp [Value.isInt], rfl, trivial⟩, ⟨_, #[], 0, e1, ⟨rfl, rfl, rfl⟩, rfl, fun e he => by simp at he, .nil, List.nodup_nil⟩, fun h' hd hs => ?_⟩
    obtain ⟨ob, es, ep, g, hex, hdat, hk, hp, _⟩ := hd
    have S3 := S2.turnX f4 f5 hs g
    refine k2 _ _ h' _ (Pre.add _ _) (S3.less.add g e4 e2 e3 T.sr.gt1 f4 f5 ⟨⟨Nat.le_add_left _ _, List.nodup_cons.mpr ⟨by simp, List.nodup_nil⟩⟩, es.toList, ep, ?_, ?_⟩) (VR.last S3 _)
    · obtain ⟨c1, c2, c3⟩ := hex
      obtain ⟨oc, od, oda, osl⟩ := ob
      dsimp only at c1 c2 c3 hdat
      subst c1 c2 c3 hdat
      simp [W.dictOf]
    · have hm : merged ([] : List (Int × Value)) [(i, cvv)] = [(i, cvv)] := rfl
      rw [hm] at hp
      cases hes : es.toList with
      | nil => rw [hes] at hp; cases hp
      | cons e r =>
        rw [hes] at hp
        cases hp with
        | cons a b c =>
          cases c
          obtain ⟨k', h3, h4⟩ := hk e (by rw [← Array.mem_toList_iff, hes]; exact .head _)
          obtain ⟨t', ht⟩ := Value.isInt_shape h3
          have h5 : Value.isInt i e.key = true := a
          have hki : k' = i := Value.isInt_inj _ _ _ h3 h5
          subst hki
          exact .cons ⟨⟨t', ht, h4⟩, by rw [show e.val = cvv from b]; exact rv.mono (Pre.add _ _)⟩ .nil
  · exact k2.elim
end
end Mini

end

section
set_option autoImplicit false
namespace Mini
open PySem PySem.W PySem.Calls PyProof PyProof.Rows PyProof.V PySem.Spec PySem.SeqAt

section
variable {Z : Cx} {G : Str → Option AV} {Sc : Mini.Sc} {env : Env} {cl : List (Str × Addr)} {γ : List (Str × Nat)} {ρ : Loc} {ex : List (Addr × Obj)} {fs : List (Addr × Data)} {L : Addr} {m : Str → Option Value} {μ : List Addr} {σ : Store} {s : Shared} {A : Around} {E : Value → Shared → Prop} {X : IX} {n : Nat}

theorem PostL.up {m₀ : Str → Option Value} {Q : Unit → Shared → Prop} {r : RE Loc} {μ' : List Addr} {h' : Heap} {tk : Nat} (p : Pre μ μ') (h : PostL Z ex fs L μ m₀ s Q E r) : PostL Z ex fs L μ' m₀ { s with heap := h', toks := tk } Q E r := by
  cases r with
  | ok v σ' => exact fun μ'' m' h'' tk' p' S fr => h μ'' m' h'' tk' (p.trans p') S fr
  | exc k σ' => exact ExcPost.up p h
  | bad => exact h

theorem PostL.frame {m₀ m₁ : Str → Option Value} {Q : Unit → Shared → Prop} {r : RE Loc} (h : PostL Z ex fs L μ m₀ s Q E r) : PostL Z ex fs L μ m₁ s Q E r := by
  cases r with
  | ok v σ' => exact h
  | exc k σ' => unfold PostL ExcPost at h; exact h.elim
  | bad => exact h

theorem PostL.bind {α β : Type} {R : List Addr → α → β → Prop} {Q : Unit → Shared → Prop} {Q' : β → Shared → Prop} {r : RE α} {f : α → Store → RE Loc} (hp : PostL Z ex fs L μ m s Q E (r.bind f))
    (k : ∀ v σ' μ' b h' tk, Pre μ μ' → SR Z ex fs L m μ' σ' h' → R μ' v b → PostL Z ex fs L μ' m { s with heap := h', toks := tk } Q E (f v σ') → Q' b { s with heap := h', toks := tk }) :
    Post Z ex fs L m R μ s Q' E r := by
  cases r with
  | ok v σ' => exact fun μ' b h' tk p S x => k v σ' μ' b h' tk p S x (PostL.up p hp)
  | exc k' σ' => exact hp
  | bad => exact hp

def HA (Z : Cx) (G : Str → Option AV) (X : IX) (A : Around) (fuel : Nat) : Prop :=
  ∀ {Sc : Mini.Sc} {env : Env} {cl : List (Str × Addr)} {γ : List (Str × Nat)} {ρ : Loc} {ex : List (Addr × Obj)} {fs : List (Addr × Data)} {L : Addr} {m : Str → Option Value} {μ : List Addr} {σ : Store} {s : Shared} {E : Value → Shared → Prop} {t : Expr} {ct : CT} {v : AV} {cv : Value} {Q : Unit → Shared → Prop},
    cT Sc fuel t = some ct → St Z G Sc env cl γ ρ ex fs L m μ σ s → VR μ v cv → PostL Z ex fs L μ m s Q E (assignT X γ ρ ct v σ) → wpAny (model Z.prog Z.w) A (assign t env cv) Q E s
def HAs (Z : Cx) (G : Str → Option AV) (X : IX) (A : Around) (fuel : Nat) : Prop :=
  ∀ {Sc : Mini.Sc} {env : Env} {cl : List (Str × Addr)} {γ : List (Str × Nat)} {ρ : Loc} {ex : List (Addr × Obj)} {fs : List (Addr × Data)} {L : Addr} {m : Str → Option Value} {μ : List Addr} {σ : Store} {s : Shared} {E : Value → Shared → Prop} {ts : List Expr} {cts : CTs} {vs : List AV} {cvs : List Value} {Q : Unit → Shared → Prop},
    cTs Sc fuel ts = some cts → St Z G Sc env cl γ ρ ex fs L m μ σ s → VRs μ vs cvs → PostL Z ex fs L μ m s Q E (assignTs X γ ρ cts vs σ) → wpAny (model Z.prog Z.w) A (assignInOrder ((assignEach ts env).map (·.2)) cvs) Q E s

theorem cTs_cons {k : Nat} {t : Expr} {r : List Expr} {cts : CTs} (h : cTs Sc (k + 1) (t :: r) = some cts) : ∃ c d, cT Sc k t = some c ∧ cTs Sc k r = some d ∧ cts = .cons c d := by
  unfold cTs at h
  obtain ⟨c, hc, h⟩ := Option.bind_eq_some_iff.mp h
  obtain ⟨d, hd, rfl⟩ := Option.map_eq_some_iff.mp h
  exact ⟨c, d, hc, hd, rfl⟩
theorem cTs_nil {k : Nat} {cts : CTs} (h : cTs Sc (k + 1) [] = some cts) : cts = .nil := by
  unfold cTs at h; cases h; rfl
theorem cT_noStar {k : Nat} {e : Expr} {p : Pos} {c : CT} (h : cT Sc k (.Starred e p) = some c) : False := by
  cases k with
  | zero => unfold cT at h; cases h
  | succ k => unfold cT at h; cases h
theorem assignEach_cons {t : Expr} {r : List Expr} (h : ∀ e p, t ≠ .Starred e p) : assignEach (t :: r) env = (false, assign t env) :: assignEach r env := by
  cases t <;> first | rfl | exact absurd rfl (h _ _)
theorem assignEach_plain {k : Nat} : ∀ {ts : List Expr} {cts : CTs}, cTs Sc k ts = some cts → (assignEach ts env).length = ts.length ∧ (assignEach ts env).findIdx? (·.1) = none ∧ cts.len = ts.length
  | [], cts, h => by
    cases k with
    | zero => unfold cTs at h; cases h
    | succ k => cases cTs_nil h; exact ⟨rfl, rfl, rfl⟩
  | t :: r, cts, h => by
    cases k with
    | zero => unfold cTs at h; cases h
    | succ k =>
      obtain ⟨c, d, h1, h2, rfl⟩ := cTs_cons h
      obtain ⟨a, b, c'⟩ := assignEach_plain (ts := r) h2
      have hs : ∀ e p, t ≠ .Starred e p := by rintro e p rfl; exact cT_noStar h1
      rw [assignEach_cons hs]
      refine ⟨by simp [a], ?_, by simp [CTs.len, c']⟩
      rw [List.findIdx?_cons, b]; rfl

theorem has_step {k : Nat} (ha : HA Z G X A k) (has : HAs Z G X A k) : HAs Z G X A (k + 1) := by
  intro Sc env cl γ ρ ex fs L m μ σ s E ts cts vs cvs Q c T rv h
  cases ts with
  | nil =>
    cases cTs_nil c
    cases rv with
    | nil =>
      rw [assignTs] at h
      exact wpAny_assignInOrder_none (h μ m s.heap s.toks (Pre.refl _) T.sr T.fr)
    | cons _ _ => rw [assignTs] at h <;> first | exact h.elim | (intros; simp_all)
  | cons t r =>
    obtain ⟨c1, d, h1, h2, rfl⟩ := cTs_cons c
    have hs : ∀ e p, t ≠ .Starred e p := by rintro e p rfl; exact cT_noStar h1
    rw [assignEach_cons hs]
    cases rv with
    | nil => rw [assignTs] at h <;> first | exact h.elim | (intros; simp_all)
    | @cons v cv vs cvs rv rvs =>
      rw [assignTs] at h
      refine wpAny_assignInOrder_more (ha h1 T rv ?_)
      cases q : assignT X γ ρ c1 v σ with
      | ok ρ' σ' =>
        rw [q] at h
        intro μ' m' h' tk p S fr'
        exact has h2 ⟨T.fe, S, fr', T.gr.mono p⟩ (VRs.mono p rvs) (PostL.frame (PostL.up (h' := h') (tk := tk) p h))
      | exc k σ' => rw [q] at h; exact h
      | bad => rw [q] at h; exact h

theorem ha_step {k : Nat} (O : Ok Z G) (XO : XOk Z X n) (hr : RoomB n A) (he : HE Z G X A k) (has : HAs Z G X A k) : HA Z G X A (k + 1) := by
  intro Sc env cl γ ρ ex fs L m μ σ s E t ct v cv Q c T rv h
  unfold cT at c
  cases t <;> try (cases c; done)
  case Name x pos =>
    dsimp only at c
    split at c
    · rename_i hk
      cases c
      rw [assignT] at h
      exact wpAny_assign_Name (store_local T.fe T.sr T.fr hk rv fun m' h' tk S fr => h μ m' h' tk (Pre.refl _) S fr)
    · rename_i hk
      cases c
      rw [assignT] at h
      exact wpAny_assign_Name (store_cell (R := fun _ _ _ => True) T.fe T.sr T.gr hk rv (PostL.bind h fun _ σ' μ' b h' tk p S _ h3 => h3 μ' m h' tk (Pre.refl _) S (T.fr.mono p)) fun _ => trivial)
    · cases c
  case Attribute a x pos =>
    obtain ⟨ca, h1, rfl⟩ := Option.map_eq_some_iff.mp c
    rw [assignT] at h
    show wpAny _ A (do
      let ov ← holding [cv] (eval a env)
      standAt pos.atName
      holding [cv, ov] (setAttr ov x cv)
      release [cv, ov] []) Q E s
    refine wpAny_bind (wpAny_holding (he h1 T (h.bind fun o σ1 μ1 co h1' t1 p1 S1 ro h3 => wpAny_bind (wpAny_standAt (wpAny_bind (wpAny_holding (setAttr_snd O XO hr.toRoom (by have := hr.b; omega) S1 ro (rv.mono p1) (h3.bind fun _ σ2 μ2 _ h2' t2 p2 S2 _ h4 => ?_))))))))
    exact wpAny_release' (h4 μ2 m h2' t2 (Pre.refl _) S2 (T.fr.mono (p1.trans p2)))
  case Subscript a i pos =>
    have hi : ∀ lo up st p, i ≠ .Slice lo up st p := by rintro lo up st p rfl; cases c
    have c : ((cE Sc k a).bind fun a => (cE Sc k i).map (.sub a)) = some ct := by cases i <;> first | exact c | exact absurd rfl (hi _ _ _ _)
    obtain ⟨ca, h1, c⟩ := Option.bind_eq_some_iff.mp c
    obtain ⟨ci, h2, rfl⟩ := Option.map_eq_some_iff.mp c
    rw [assignT] at h
    have e0 : assign (.Subscript a i pos) env cv = (do
      let ov ← holding [cv] (eval a env)
      let iv ← holding [cv, ov] (eval i env)
      standAt pos
      holding [cv, ov, iv] (setItem ov iv cv)
      release [cv, ov, iv] []) := by cases i <;> first | rfl | exact absurd rfl (hi _ _ _ _)
    rw [e0]
    refine wpAny_bind (wpAny_holding (he h1 T (h.bind fun o σ1 μ1 co h1' t1 p1 S1 ro h3 => wpAny_bind (wpAny_holding (he h2 (T.next p1 S1) (h3.bind fun w σ2 μ2 ci h2' t2 p2 S2 ri h4 =>
      wpAny_bind (wpAny_standAt (wpAny_bind (wpAny_holding (setItem_snd S2 (ro.mono p2) ri (rv.mono (p1.trans p2)) (h4.bind fun _ σ3 μ3 _ h3' t3 p3 S3 _ h5 => ?_)))))))))))
    exact wpAny_release' (h5 μ3 m h3' t3 (Pre.refl _) S3 (T.fr.mono ((p1.trans p2).trans p3)))
  all_goals
    obtain ⟨cts, h1, rfl⟩ := Option.map_eq_some_iff.mp c
    rw [assignT] at h
    split at h
    · rename_i vs hu
      split at h
      · rename_i hlen
        unfold unpackM at hu
        split at hu
        · rename_i j
          obtain ⟨a, ha, rfl⟩ := rv
          split at hu
          · rename_i xs hj
            cases hu
            obtain ⟨ob, g, r⟩ := T.sr.at' hj ha
            obtain ⟨us, ht, r, hsz, hz⟩ := r.isTup g
            obtain ⟨a1, a2, a3⟩ := assignEach_plain (env := env) h1
            have hl2 := a1.trans (a3.symm.trans ((eq_of_beq hlen).symm.trans hsz.symm))
            first
            | refine wpAny_assign_Tuple hr.h ht hl2 a2 fun h' hx => has h1 ⟨T.fe, T.sr.keepsNot fun b o hb e => hx b o hb e, T.fr, T.gr⟩ r (PostL.up (tk := s.toks) (Pre.refl _) h)
            | refine wpAny_assign_List hr.h ht hl2 a2 fun h' hx => has h1 ⟨T.fe, T.sr.keepsNot fun b o hb e => hx b o hb e, T.fr, T.gr⟩ r (PostL.up (tk := s.toks) (Pre.refl _) h)
          · cases hu
        · cases hu
      · exact h.elim
    · exact h.elim
end
end Mini

end

section
set_option autoImplicit false
namespace Mini
open PySem PySem.W PySem.Calls PyProof PyProof.Rows PyProof.V PySem.Spec PySem.SeqAt

def rangeObj (x left step : Int) : Obj := { cls := .type "range_iterator", dict := none, data := .fields #[rawInt x, rawInt left, rawInt step], slots := #[] }

def zipObj (TI TO : Addr) : Obj := { cls := .type "zip", dict := none, data := .fields #[.none, .bool false, .bool false, .ref TI, .ref TO], slots := #[] }
def pairObj (a b : Value) : Obj := { cls := .type "tuple", data := .seq #[a, b] }
/-- an iterator's objects -/
def ItS (μ : List Addr) (it : It) (i : Nat) (I : Addr) (own : List (Addr × Obj)) : Prop := match it with
  | .lst n => ∃ a o, μ[n]? = some a ∧ own = [(I, o)] ∧ o.cls = .type "list_iterator" ∧ o.data = .fields #[.ref a, .int i 0]
  | .tpl n => ∃ a o, μ[n]? = some a ∧ own = [(I, o)] ∧ o.cls = .type "tuple_iterator" ∧ o.data = .fields #[.ref a, .int i 0]
  | .items xs => i ≤ xs.length ∧ ∃ a st : Int, (∀ (k : Nat) v, xs[k]? = some v → v = .int (a + st * k)) ∧ own = [(I, rangeObj (a + st * i) ((xs.length : Int) - i) st)]
  | .zip n k => ∃ a b TI TO i1 i2 o1 o2 x y, μ[n]? = some a ∧ μ[k]? = some b ∧ own = [(I, zipObj TI TO), (TI, pairObj (.ref i1) (.ref i2)), (TO, pairObj x y), (i1, o1), (i2, o2)] ∧ ZipApart I TI TO i1 i2 a b ∧
      (o1.cls = .type "list_iterator" ∧ o1.data = .fields #[.ref a, .int i 0]) ∧ o2.cls = .type "list_iterator" ∧ o2.data = .fields #[.ref b, .int i 0]

def Apart (own : List (Addr × Obj)) (ex : List (Addr × Obj)) (fs : List (Addr × Data)) : Prop := ∀ p ∈ own, (∀ q ∈ ex, q.1 ≠ p.1) ∧ ∀ q ∈ fs, q.1 ≠ p.1

section
variable {Z : Cx} {G : Str → Option AV} {Sc : Mini.Sc} {env : Env} {cl : List (Str × Addr)} {γ : List (Str × Nat)} {ρ : Loc} {ex own : List (Addr × Obj)} {fs : List (Addr × Data)} {L I : Addr} {m : Str → Option Value} {μ : List Addr} {σ : Store} {s : Shared} {A : Around} {E : Value → Shared → Prop} {X : IX} {n i : Nat} {it : It}

theorem letOwned_noop {target : Expr} {o : Obj} {T : String} {v : Value} {Q : Unit → Shared → Prop} (g : s.heap.get? I = some o) (hc : o.cls = .type T)
    (hT : ["enumerate", "zip", "dict_itemiterator", "dict_reverseitemiterator", "odict_iterator", "itertools.zip_longest", "itertools.pairwise"].contains T = false) (h : Q () s) : wpAny (model Z.prog Z.w) A (letOwnedTupleGo target (.ref I) v) Q E s := by
  unfold letOwnedTupleGo
  split
  · split
    · rename_i e
      cases e
      refine wpAny_bind (wpAny_load g ?_)
      rw [hc]
      split
      · rename_i e _
        cases e
        rw [hT]
        exact wpAny_pure h
      · exact wpAny_pure h
    · exact wpAny_pure h
  · split
    · rename_i e
      cases e
      refine wpAny_bind (wpAny_load g ?_)
      rw [hc]
      split
      · rename_i e _
        cases e
        rw [hT]
        exact wpAny_pure h
      · exact wpAny_pure h
    · exact wpAny_pure h
  · exact wpAny_pure h

/-- a heap that keeps all but one object aside -/
theorem SR.gone {o : Obj} {h h' : Heap} (S : SR Z ((I, o) :: ex) fs L m μ σ h) (hx : ∀ p ∈ ex, p.1 ≠ I) (hfx : ∀ p ∈ fs, p.1 ≠ I) (k : Heap.ExtBut I h h') : SR Z ex fs L m μ σ h' := by
  obtain ⟨_, b, c, d⟩ := S.ex (I, o) (.head _)
  exact {
    fr := ⟨let ⟨oL, es, ep, a1, a2⟩ := S.fr.ns; ⟨oL, es, ep, k _ _ b.symm a1, a2⟩, fun b' ob e => k _ _ (fun q => by subst q; rw [c] at e; cases e) (S.fr.keep b' ob e), S.fr.above⟩
    ex := fun p hp => by
      obtain ⟨x, b', c', d'⟩ := S.ex p (.tail _ hp)
      exact ⟨k _ _ (hx p hp) x, b', c', d'⟩
    fs := fun p hp => by
      obtain ⟨⟨o, x, x'⟩, b', c', d'⟩ := S.fs p hp
      exact ⟨⟨o, k _ _ (hfx p hp) x, x'⟩, b', c', d'⟩
    len := S.len
    nodup := S.nodup
    own := S.own
    obj := fun n o a e ha => by
      obtain ⟨ob, x, y⟩ := S.obj n o a e ha
      exact ⟨ob, k _ _ (fun q => d (q ▸ mem_of_at ha)) x, y⟩ }

/-- objects aside are turned, the rest stands -/
theorem SR.turnMany {own' : List (Addr × Obj)} {h h' : Heap} (S : SR Z (own ++ ex) fs L m μ σ h) (ap : Apart own ex fs) (hk : own'.map (·.1) = own.map (·.1)) (k : ∀ b o, b ∉ own.map (·.1) → h.get? b = some o → h'.get? b = some o) (g : ∀ p ∈ own', h'.get? p.1 = some p.2) :
    SR Z (own' ++ ex) fs L m μ σ h' := by
  have hL : L ∉ own.map (·.1) := fun q => by
    obtain ⟨p, hp, e⟩ := List.mem_map.mp q
    exact (S.ex p (List.mem_append_left _ hp)).2.1 e
  have hμ : ∀ a ∈ μ, a ∉ own.map (·.1) := fun a ha q => by
    obtain ⟨p, hp, e⟩ := List.mem_map.mp q
    exact (S.ex p (List.mem_append_left _ hp)).2.2.2 (e ▸ ha)
  have hb : ∀ b o, Z.base.get? b = some o → b ∉ own.map (·.1) := fun b o e q => by
    obtain ⟨p, hp, e'⟩ := List.mem_map.mp q
    have := (S.ex p (List.mem_append_left _ hp)).2.2.1
    rw [e', e] at this; cases this
  exact {
    fr := ⟨let ⟨oL, es, ep, a1, a2⟩ := S.fr.ns; ⟨oL, es, ep, k _ _ hL a1, a2⟩, fun b ob e => k _ _ (hb b ob e) (S.fr.keep b ob e), S.fr.above⟩
    ex := fun p hp => by
      rcases List.mem_append.mp hp with hp | hp
      · have : p.1 ∈ own.map (·.1) := by rw [← hk]; exact List.mem_map_of_mem hp
        obtain ⟨q, hq, e⟩ := List.mem_map.mp this
        obtain ⟨_, b, c, d⟩ := S.ex q (List.mem_append_left _ hq)
        rw [e] at b c d
        exact ⟨g p hp, b, c, d⟩
      · obtain ⟨x, b, c, d⟩ := S.ex p (List.mem_append_right _ hp)
        refine ⟨k _ _ (fun q => ?_) x, b, c, d⟩
        obtain ⟨r, hr, e⟩ := List.mem_map.mp q
        exact (ap r hr).1 p hp e.symm
    fs := fun p hp => by
      obtain ⟨⟨o, x, x'⟩, b', c', d'⟩ := S.fs p hp
      refine ⟨⟨o, k _ _ (fun q => ?_) x, x'⟩, b', c', d'⟩
      obtain ⟨r, hr, e⟩ := List.mem_map.mp q
      exact (ap r hr).2 p hp e.symm
    len := S.len
    nodup := S.nodup
    own := S.own
    obj := fun n o a e ha => by
      obtain ⟨ob, x, y⟩ := S.obj n o a e ha
      exact ⟨ob, k _ _ (hμ a (mem_of_at ha)) x, y⟩ }

theorem SR.subI {ex' : List (Addr × Obj)} {h : Heap} (S : SR Z ex fs L m μ σ h) (k : ∀ p ∈ ex', p ∈ ex) : SR Z ex' fs L m μ σ h := { S with ex := fun p hp => S.ex p (k p hp) }
theorem SR.goneMany {h h' : Heap} (S : SR Z (own ++ ex) fs L m μ σ h) (ap : Apart own ex fs) (k : ∀ b o, b ∉ own.map (·.1) → h.get? b = some o → h'.get? b = some o) : SR Z ex fs L m μ σ h' := by
  have hL : L ∉ own.map (·.1) := fun q => by
    obtain ⟨p, hp, e⟩ := List.mem_map.mp q
    exact (S.ex p (List.mem_append_left _ hp)).2.1 e
  have hμ : ∀ a ∈ μ, a ∉ own.map (·.1) := fun a ha q => by
    obtain ⟨p, hp, e⟩ := List.mem_map.mp q
    exact (S.ex p (List.mem_append_left _ hp)).2.2.2 (e ▸ ha)
  have hb : ∀ b o, Z.base.get? b = some o → b ∉ own.map (·.1) := fun b o e q => by
    obtain ⟨p, hp, e'⟩ := List.mem_map.mp q
    have := (S.ex p (List.mem_append_left _ hp)).2.2.1
    rw [e', e] at this; cases this
  exact {
    fr := ⟨let ⟨oL, es, ep, a1, a2⟩ := S.fr.ns; ⟨oL, es, ep, k _ _ hL a1, a2⟩, fun b ob e => k _ _ (hb b ob e) (S.fr.keep b ob e), S.fr.above⟩
    ex := fun p hp => by
      obtain ⟨x, b, c, d⟩ := S.ex p (List.mem_append_right _ hp)
      refine ⟨k _ _ (fun q => ?_) x, b, c, d⟩
      obtain ⟨r, hr, e⟩ := List.mem_map.mp q
      exact (ap r hr).1 p hp e.symm
    fs := fun p hp => by
      obtain ⟨⟨o, x, x'⟩, b', c', d'⟩ := S.fs p hp
      refine ⟨⟨o, k _ _ (fun q => ?_) x, x'⟩, b', c', d'⟩
      obtain ⟨r, hr, e⟩ := List.mem_map.mp q
      exact (ap r hr).2 p hp e.symm
    len := S.len
    nodup := S.nodup
    own := S.own
    obj := fun n o a e ha => by
      obtain ⟨ob, x, y⟩ := S.obj n o a e ha
      exact ⟨ob, k _ _ (hμ a (mem_of_at ha)) x, y⟩ }

/-- one turn of an iterator -/
theorem next_snd {target : Expr} {N : Shared → Prop} {K : Value → Shared → Prop} {E' : Value → Shared → Prop} (hh : A.handled = none) (ht : ∀ n k, it = .zip n k → ∃ e c p, target = .Tuple e c p) (S : SR Z (own ++ ex) fs L m μ σ s.heap) (J : ItS μ it i I own) (ap : Apart own ex fs)
    (h : match nextIt it i σ with
      | .item v σ' => ∀ cv own' μ' h' tk, Pre μ μ' → SR Z (own' ++ ex) fs L m μ' σ' h' → ItS μ' it (i + 1) I own' → own'.map (·.1) = own.map (·.1) → VR μ' v cv → K cv { s with heap := h', toks := tk }
      | .stop => ∀ h' tk, SR Z ex fs L m μ σ h' → N { s with heap := h', toks := tk }
      | .bad => False) :
    wpAny (model Z.prog Z.w) A (pyNext (.ref I)) (fun r s₁ => match r with | none => N s₁ | some v => wpAny (model Z.prog Z.w) A (letOwnedTupleGo target (.ref I) v) (fun _ s₁' => K v s₁') E' s₁) E s := by
  cases it with
  | lst k =>
    obtain ⟨a, o, ha, rfl, hc, hd⟩ := J
    obtain ⟨g, b, c, d⟩ := S.ex (I, o) (.head _)
    obtain ⟨hx, hf⟩ := ap _ (.head _)
    cases hk : σ[k]? with
    | none => simp only [nextIt, hk] at h
    | some ao =>
    cases ao with
    | list xs =>
      obtain ⟨ob, g', r⟩ := S.at' hk ha
      obtain ⟨vs, hl, r, hsz, hz⟩ := r.isList g'
      cases hw : xs[i]? with
      | some w =>
        simp only [nextIt, hk, hw] at h
        obtain ⟨cv, h1, h2⟩ := r.get hw
        rw [Array.getElem?_toList] at h1
        refine wpAny_pyNext_list_item ⟨o, g, hc, hd⟩ hl h1 fun h' hi hs => ?_
        obtain ⟨o', g1, c1, d1⟩ := hi
        exact letOwned_noop g1 c1 (by decide) (h cv [(I, o')] μ h' s.toks (Pre.refl _) (S.turnX hx hf hs g1) ⟨a, o', ha, rfl, c1, d1⟩ rfl h2)
      | none =>
        simp only [nextIt, hk, hw] at h
        refine wpAny_pyNext_list_end hh ⟨o, g, hc, hd⟩ hl (by simp at hw ⊢; omega) fun h' hs => ?_
        exact h h' s.toks (S.gone hx hf hs)
    | _ => simp only [nextIt, hk] at h
  | tpl k =>
    obtain ⟨a, o, ha, rfl, hc, hd⟩ := J
    obtain ⟨g, b, c, d⟩ := S.ex (I, o) (.head _)
    obtain ⟨hx, hf⟩ := ap _ (.head _)
    cases hk : σ[k]? with
    | none => simp only [nextIt, hk] at h
    | some ao =>
    cases ao with
    | tup xs =>
      obtain ⟨ob, g', r⟩ := S.at' hk ha
      obtain ⟨vs, hl, r, hsz, hz⟩ := r.isTup g'
      cases hw : xs[i]? with
      | some w =>
        simp only [nextIt, hk, hw] at h
        obtain ⟨cv, h1, h2⟩ := r.get hw
        rw [Array.getElem?_toList] at h1
        refine wpAny_pyNext_tuple_item ⟨o, g, hc, hd⟩ hl h1 fun h' hi hs => ?_
        obtain ⟨o', g1, c1, d1⟩ := hi
        exact letOwned_noop g1 c1 (by decide) (h cv [(I, o')] μ h' s.toks (Pre.refl _) (S.turnX hx hf hs g1) ⟨a, o', ha, rfl, c1, d1⟩ rfl h2)
      | none =>
        simp only [nextIt, hk, hw] at h
        refine wpAny_pyNext_tuple_end hh ⟨o, g, hc, hd⟩ hl (by simp at hw ⊢; omega) fun h' hs => ?_
        exact h h' s.toks (S.gone hx hf hs)
    | _ => simp only [nextIt, hk] at h
  | items xs =>
    obtain ⟨hi, a, st, hv, rfl⟩ := J
    obtain ⟨g, b, c, d⟩ := S.ex _ (.head _)
    obtain ⟨hx, hf⟩ := ap _ (.head _)
    cases hw : xs[i]? with
    | some v =>
      simp only [nextIt, hw] at h
      have hlt : i < xs.length := by obtain ⟨q, _⟩ := List.getElem?_eq_some_iff.mp hw; exact q
      have := hv i v hw
      subst this
      refine wpAny_pyNext_range_item g (by omega) fun h' g1 hs => ?_
      have e1 : a + st * (i : Int) + st = a + st * ((i + 1 : Nat) : Int) := by rw [Int.natCast_add, Int.mul_add]; simp [Int.add_assoc]
      have e2 : (xs.length : Int) - i - 1 = xs.length - ((i + 1 : Nat) : Int) := by omega
      rw [e1, e2] at g1
      exact letOwned_noop g1 rfl (by decide) (h _ [(I, _)] μ h' (s.toks + 1) (Pre.refl _) (S.turnX hx hf hs g1) ⟨hlt, a, st, hv, rfl⟩ rfl ⟨_, rfl⟩)
    | none =>
      simp only [nextIt, hw] at h
      have hge : xs.length ≤ i := by simpa using hw
      refine wpAny_pyNext_range_end hh g (by omega) fun h' hs => ?_
      exact h h' s.toks (S.gone hx hf hs)
  | zip k l =>
    obtain ⟨a, b, TI, TO, i1, i2, o1, o2, x, y, ha, hb, rfl, D, ⟨c1, d1⟩, c2, d2⟩ := J
    have gz := (S.ex (I, zipObj TI TO) (by simp)).1
    have gI := (S.ex (TI, pairObj (.ref i1) (.ref i2)) (by simp)).1
    have gO := (S.ex (TO, pairObj x y) (by simp)).1
    have g1 := (S.ex (i1, o1) (by simp)).1
    have g2 := (S.ex (i2, o2) (by simp)).1
    obtain ⟨te, tc, tp, rfl⟩ := ht k l rfl
    cases hk : σ[k]? with
    | none => simp only [nextIt, hk] at h
    | some ao =>
    cases ao with
    | list xs =>
      cases hl : σ[l]? with
      | none => simp only [nextIt, hk, hl] at h
      | some ao =>
      cases ao with
      | list ys =>
        obtain ⟨ob, g', r⟩ := S.at' hk ha
        obtain ⟨vs, hvl, r, hsz, hz⟩ := r.isList g'
        obtain ⟨ob', g'', r'⟩ := S.at' hl hb
        obtain ⟨us, hul, r', hsz', hz'⟩ := r'.isList g''
        have stop : (xs[i]? = none ∨ ys[i]? = none) → (∀ h' tk, SR Z ex fs L m μ σ h' → N { s with heap := h', toks := tk }) → wpAny (model Z.prog Z.w) A (pyNext (.ref I)) (fun r s₁ => match r with | none => N s₁ | some v => wpAny (model Z.prog Z.w) A (letOwnedTupleGo (.Tuple te tc tp) (.ref I) v) (fun _ s₁' => K v s₁') E' s₁) E s := fun hend hN => by
          refine wpAny_pyNext_zip_end hh D gz gI gO ⟨o1, g1, c1, d1⟩ ⟨o2, g2, c2, d2⟩ hvl hul ?_ fun h' hkeep => ?_
          · rcases hend with e | e
            · left; simp at e ⊢; omega
            · right; simp at e ⊢; omega
          · refine hN h' s.toks ?_
            have hTI : h'.get? TI = some (pairObj (.ref i1) (.ref i2)) := hkeep TI _ D.TIz D.TITO D.TIi1 D.TIi2 gI
            have ap2 : Apart ([(I, zipObj TI TO), (TO, pairObj x y), (i1, o1), (i2, o2)] : List (Addr × Obj)) ((TI, pairObj (.ref i1) (.ref i2)) :: ex) fs := by
              intro p hp
              have hp' : p ∈ ([(I, zipObj TI TO), (TI, pairObj (.ref i1) (.ref i2)), (TO, pairObj x y), (i1, o1), (i2, o2)] : List (Addr × Obj)) := by
                simp at hp ⊢; rcases hp with h | h | h | h <;> simp [h]
              obtain ⟨q1, q2⟩ := ap p hp'
              refine ⟨fun q hq => ?_, q2⟩
              rcases List.mem_cons.mp hq with rfl | hq
              · simp at hp
                rcases hp with rfl | rfl | rfl | rfl
                · exact D.TIz
                · exact D.TITO
                · exact D.TIi1
                · exact D.TIi2
              · exact q1 q hq
            exact SR.goneMany (own := [(I, zipObj TI TO), (TO, pairObj x y), (i1, o1), (i2, o2)]) (ex := (TI, pairObj (.ref i1) (.ref i2)) :: ex) (S.subI (fun p hp => by
              simp at hp ⊢
              rcases hp with h | h | h | h | h | h <;> simp [h])) ap2 (fun c o hc e => by
              simp at hc
              exact hkeep c o hc.1 hc.2.1 hc.2.2.1 hc.2.2.2 e) |>.less
        cases hx : xs[i]? with
        | none =>
          simp only [nextIt, hk, hl, hx] at h
          exact stop (.inl hx) h
        | some xv =>
          cases hy : ys[i]? with
          | none =>
            simp only [nextIt, hk, hl, hx, hy] at h
            exact stop (.inr hy) h
          | some yv =>
            simp only [nextIt, hk, hl, hx, hy] at h
            obtain ⟨cx, e1, rx⟩ := r.get hx
            obtain ⟨cy, e2, ry⟩ := r'.get hy
            rw [Array.getElem?_toList] at e1 e2
            refine wpAny_pyNext_zip_item D gz gI gO ⟨o1, g1, c1, d1⟩ ⟨o2, g2, c2, d2⟩ hvl hul e1 e2 fun h' z1 z2 z3 z4 z5 z6 z7 => ?_
            refine wpAny_letOwnedTupleGo_zip z1 fun h'' w1 w2 => ?_
            obtain ⟨n1, q1, q2, q3⟩ := z3
            obtain ⟨n2, q4, q5, q6⟩ := z4
            obtain ⟨f1, f2, f3, f4, f5⟩ := S.fresh
            have keep2 : ∀ c o, c ≠ I → h'.get? c = some o → h''.get? c = some o := fun c o hc e => (w2.2 c hc).trans e
            have S' := S.turnMany (own' := [(I, zipObj TI TO), (TI, pairObj (.ref i1) (.ref i2)), (TO, pairObj cx cy), (i1, n1), (i2, n2)]) (h' := h'') ap rfl (fun c o hc e => by
              simp at hc
              exact keep2 c o hc.1 (z7 c o hc.1 hc.2.2.1 hc.2.2.2.1 hc.2.2.2.2 e)) (fun p hp => by
              simp at hp
              rcases hp with rfl | rfl | rfl | rfl | rfl
              · exact w1
              · exact keep2 _ _ D.TIz (z7 _ _ D.TIz D.TITO D.TIi1 D.TIi2 gI)
              · exact keep2 _ _ D.TOz z2
              · exact keep2 _ _ D.i1z q1
              · exact keep2 _ _ D.i2z q4)
            have hIs : s.heap.objs.size ≠ I := (f4 _ (by simp : (I, zipObj TI TO) ∈ _)).symm
            have S'' := S'.add (o := .tup [xv, yv]) (keep2 _ _ hIs z5) f1 f2 f3 S.gt1 (fun p hp => by
              rcases List.mem_append.mp hp with hp | hp
              · simp at hp
                rcases hp with rfl | rfl | rfl | rfl | rfl
                · exact hIs.symm
                · exact f4 (TI, pairObj (.ref i1) (.ref i2)) (by simp)
                · exact f4 (TO, pairObj x y) (by simp)
                · exact f4 (i1, o1) (by simp)
                · exact f4 (i2, o2) (by simp)
              · exact f4 p (List.mem_append_right _ hp)) f5 ⟨by simp [lim_small], _, 0, rfl, .cons (rx.mono (Pre.add _ _)) (.cons (ry.mono (Pre.add _ _)) .nil)⟩
            exact h _ _ _ h'' s.toks (Pre.add _ _) S'' ⟨a, b, TI, TO, i1, i2, n1, n2, cx, cy, (Pre.add _ _).get ha, (Pre.add _ _).get hb, rfl, D, ⟨q2, q3⟩, q5, q6⟩ rfl (VR.last S _)
      | _ => simp only [nextIt, hk, hl] at h
    | _ => simp only [nextIt, hk] at h
end
end Mini

end

section
set_option autoImplicit false
namespace Mini
open PySem PySem.W PySem.Calls PyProof PyProof.Rows PyProof.V PySem.Spec PySem.SeqAt

def PostI (Z : Cx) (ex : List (Addr × Obj)) (fs : List (Addr × Data)) (L : Addr) (m : Str → Option Value) (μ : List Addr) (s : Shared) (Q : Value → Shared → Prop) (E : Value → Shared → Prop) : RE It → Prop
  | .ok it σ' => ∀ μ' I own h' tk, Pre μ μ' → SR Z (own ++ ex) fs L m μ' σ' h' → ItS μ' it 0 I own → Apart own ex fs → Q (.ref I) { s with heap := h', toks := tk }
  | .exc k σ' => ExcPost Z ex fs L m μ s E k σ'
  | .bad => False

section
variable {Z : Cx} {G : Str → Option AV} {Sc : Mini.Sc} {env : Env} {cl : List (Str × Addr)} {γ : List (Str × Nat)} {ρ : Loc} {ex own : List (Addr × Obj)} {fs : List (Addr × Data)} {L I : Addr} {m : Str → Option Value} {μ : List Addr} {σ : Store} {s : Shared} {A : Around} {E : Value → Shared → Prop} {X : IX} {n i : Nat} {it : It}

theorem PostI.up {Q : Value → Shared → Prop} {r : RE It} {μ' : List Addr} {h' : Heap} {tk : Nat} (p : Pre μ μ') (h : PostI Z ex fs L m μ s Q E r) : PostI Z ex fs L m μ' { s with heap := h', toks := tk } Q E r := by
  cases r with
  | ok v σ' => exact fun μ'' I own h'' tk' p' S J ap => h μ'' I own h'' tk' (p.trans p') S J ap
  | exc k σ' => exact ExcPost.up p h
  | bad => exact h
theorem PostI.bind {α β : Type} {R : List Addr → α → β → Prop} {Q : Value → Shared → Prop} {Q' : β → Shared → Prop} {r : RE α} {f : α → Store → RE It} (hp : PostI Z ex fs L m μ s Q E (r.bind f))
    (k : ∀ v σ' μ' b h' tk, Pre μ μ' → SR Z ex fs L m μ' σ' h' → R μ' v b → PostI Z ex fs L m μ' { s with heap := h', toks := tk } Q E (f v σ') → Q' b { s with heap := h', toks := tk }) :
    Post Z ex fs L m R μ s Q' E r := by
  cases r with
  | ok v σ' => exact fun μ' b h' tk p S x => k v σ' μ' b h' tk p S x (PostI.up p hp)
  | exc k' σ' => exact hp
  | bad => exact hp
theorem PostI.lift {α : Type} {Q : Value → Shared → Prop} {o : Option α} {f : α → Store → RE It} (hp : PostI Z ex fs L m μ s Q E ((Mini.lift o σ).bind f)) : ∃ a, o = some a ∧ PostI Z ex fs L m μ s Q E (f a σ) := by
  cases o with
  | none => exact hp.elim
  | some a => exact ⟨a, rfl, hp⟩

theorem SR.apart (S : SR Z ex fs L m μ σ s.heap) {o : Obj} : Apart [(s.heap.objs.size, o)] ex fs := by
  obtain ⟨a, b, c, d, e⟩ := S.fresh
  intro p hp
  rw [List.mem_singleton.mp hp]
  exact ⟨d, e⟩

theorem size_down (a b : Int) : Builtin.Range.rangeSize a b (-1) = if b < a then a - b else 0 := by
  unfold Builtin.Range.rangeSize
  simp only [show ¬ ((-1 : Int) > 0) by decide, if_false]
  split <;> simp <;> omega

theorem mid_of {i : Int} (h : mid i = true) : -100000 < i ∧ i < 100000 := by
  unfold mid at h
  rw [Bool.and_eq_true] at h
  exact ⟨of_decide_eq_true h.1, of_decide_eq_true h.2⟩

theorem small_down {a b : Int} (ha : mid a = true) (hb : mid b = true) : Builtin.Range.small a b (-1) = true := by
  have := mid_of ha; have := mid_of hb
  unfold Builtin.Range.small
  rw [size_down]
  simp only [Builtin.Range.rangeFitsLong, Bool.and_eq_true, Bool.or_eq_true, decide_eq_true_eq, beq_iff_eq, show ¬ ((-1 : Int) > 0) by decide, if_false]
  split <;> omega

theorem up_at {a b : Int} {k : Nat} {v : AV} (h : (rangeUp a b)[k]? = some v) : v = .int (a + 1 * k) := by
  unfold rangeUp at h
  rw [List.getElem?_map] at h
  obtain ⟨j, hj, rfl⟩ := Option.map_eq_some_iff.mp h
  obtain ⟨h1, h2⟩ := List.getElem?_eq_some_iff.mp hj
  rw [List.getElem_range] at h2
  subst h2; simp
theorem down_at {a b : Int} {k : Nat} {v : AV} (h : (rangeDown a b)[k]? = some v) : v = .int (a + (-1) * k) := by
  unfold rangeDown at h
  rw [List.getElem?_map] at h
  obtain ⟨j, hj, rfl⟩ := Option.map_eq_some_iff.mp h
  obtain ⟨h1, h2⟩ := List.getElem?_eq_some_iff.mp hj
  rw [List.getElem_range] at h2
  subst h2; simp [Int.sub_eq_add_neg]

theorem range_iter {xs : List AV} {a b st : Int} {t u v : Tok} {Q : Value → Shared → Prop} {tk₀ : Nat} (S : SR Z ex fs L m μ σ s.heap) (hs : Builtin.Range.small a b st = true) (hl : (xs.length : Int) = Builtin.Range.rangeSize a b st) (hv : ∀ (k : Nat) v, xs[k]? = some v → v = .int (a + st * k))
    (h : PostI Z ex fs L m μ s Q E (.ok (.items xs) σ)) :
    wpAny (model Z.prog Z.w) A (pyIter (.ref s.heap.objs.size)) Q E { s with heap := s.heap.push { cls := .type "range", data := .fields #[.int a t, .int b u, .int st v] }, toks := tk₀ } := by
  refine wpAny_pyIter_range (Heap.get?_push_size _ rfl) hs ?_
  have S1 := S.push { cls := .type "range", data := .fields #[.int a t, .int b u, .int st v] }
  have e : ({ cls := .type "range_iterator", data := .fields #[rawInt a, rawInt (Builtin.Range.rangeSize a b st), rawInt st] } : Obj) = rangeObj (a + st * ((0 : Nat) : Int)) ((xs.length : Int) - ((0 : Nat) : Int)) st := by
    unfold rangeObj; rw [hl]; simp
  rw [e]
  exact h μ _ [(_, _)] _ tk₀ (Pre.refl _) (S1.aside rfl) ⟨Nat.zero_le _, a, st, hv, rfl⟩ (SR.apart (s := { s with heap := s.heap.push _ }) S1)

theorem range_snd {vs : List AV} {cvs : List Value} {xs : List AV} {Q : Value → Shared → Prop} (S : SR Z ex fs L m μ σ s.heap) (r : VRs μ vs cvs) (e : rangeM vs = some xs) (h : PostI Z ex fs L m μ s Q E (.ok (.items xs) σ)) :
    wpAny (model Z.prog Z.w) A (call (.type "range") cvs) (fun x s₁ => wpAny (model Z.prog Z.w) A (pyIter x) Q E s₁) E s := by
  unfold rangeM at e
  split at e
  · rename_i b
    cases r with
    | cons rb r =>
    cases r
    obtain ⟨t, rfl⟩ := rb
    split at e
    · rename_i hb
      cases e
      have := mid_of hb
      exact call_range_1 (range_iter S (small_one (by omega) (by omega) (by omega) (by omega)) (by rw [rangeSize_one]; simp [rangeUp]; split <;> omega) (fun k v => up_at) h)
    · cases e
  · rename_i a b
    cases r with
    | cons ra r =>
    cases r with
    | cons rb r =>
    cases r
    obtain ⟨t, rfl⟩ := ra
    obtain ⟨u, rfl⟩ := rb
    split at e
    · rename_i hb
      cases e
      rw [Bool.and_eq_true] at hb
      have := mid_of hb.1; have := mid_of hb.2
      exact call_range_2 (range_iter S (small_one (by omega) (by omega) (by omega) (by omega)) (by rw [rangeSize_one]; simp [rangeUp]; split <;> omega) (fun k v => up_at) h)
    · cases e
  · rename_i a b
    cases r with
    | cons ra r =>
    cases r with
    | cons rb r =>
    cases r with
    | cons rc r =>
    cases r
    obtain ⟨t, rfl⟩ := ra
    obtain ⟨u, rfl⟩ := rb
    obtain ⟨w, rfl⟩ := rc
    split at e
    · rename_i hb
      cases e
      rw [Bool.and_eq_true] at hb
      have := mid_of hb.1; have := mid_of hb.2
      exact call_range_3 (by decide) (range_iter S (small_down hb.1 hb.2) (by rw [size_down]; simp [rangeDown]; split <;> omega) (fun k v => down_at) h) (Or.inl (noPylong_small (by decide)))
    · cases e
  · cases e
end
end Mini

end

section
set_option autoImplicit false
namespace Mini
open PySem PySem.W PySem.Calls PyProof PyProof.Rows PyProof.V PySem.Spec PySem.SeqAt

section
variable {Z : Cx} {G : Str → Option AV} {Sc : Mini.Sc} {env : Env} {cl : List (Str × Addr)} {γ : List (Str × Nat)} {ρ : Loc} {ex own : List (Addr × Obj)} {fs : List (Addr × Data)} {L I : Addr} {m : Str → Option Value} {μ : List Addr} {σ : Store} {s : Shared} {A : Around} {E : Value → Shared → Prop} {X : IX} {n i : Nat} {it : It}

def HI (Z : Cx) (G : Str → Option AV) (X : IX) (A : Around) (fuel : Nat) : Prop :=
  ∀ {Sc : Mini.Sc} {env : Env} {cl : List (Str × Addr)} {γ : List (Str × Nat)} {ρ : Loc} {ex : List (Addr × Obj)} {fs : List (Addr × Data)} {L : Addr} {m : Str → Option Value} {μ : List Addr} {σ : Store} {s : Shared} {E : Value → Shared → Prop} {x : Expr} {ci : CI} {Q : Value → Shared → Prop},
    cI Sc fuel x = some ci → St Z G Sc env cl γ ρ ex fs L m μ σ s → PostI Z ex fs L m μ s Q E (evalI X γ ρ ci σ) →
    wpAny (model Z.prog Z.w) A (eval x env) (fun xv s₁ => wpAny (model Z.prog Z.w) A (pyIter xv) Q E s₁) E s

theorem iter_obj {k : Nat} (he : HE Z G X A k) {x : Expr} {ce : CE} {Q : Value → Shared → Prop} (c : cE Sc k x = some ce) (T : St Z G Sc env cl γ ρ ex fs L m μ σ s) (h : PostI Z ex fs L m μ s Q E (evalI X γ ρ (.obj ce) σ)) :
    wpAny (model Z.prog Z.w) A (eval x env) (fun xv s₁ => wpAny (model Z.prog Z.w) A (pyIter xv) Q E s₁) E s := by
  rw [evalI] at h
  refine he c T (h.bind fun v σ' μ' cv h' tk p S rv h3 => ?_)
  split at h3
  · rename_i k'
    obtain ⟨a, ha, rfl⟩ := rv
    split at h3
    · rename_i xs hk
      obtain ⟨ob, g, r⟩ := S.at' hk ha
      obtain ⟨vs, hl, r, hsz, hz⟩ := r.isList g
      refine wpAny_pyIter_list hl ?_
      exact h3 μ' _ [(_, _)] _ tk (Pre.refl _) (S.aside rfl) ⟨a, _, ha, rfl, rfl, rfl⟩ (SR.apart (s := { s with heap := h' }) S)
    · rename_i xs hk
      obtain ⟨ob, g, r⟩ := S.at' hk ha
      obtain ⟨vs, hl, r, hsz, hz⟩ := r.isTup g
      refine wpAny_pyIter_tuple hl ?_
      exact h3 μ' _ [(_, _)] _ tk (Pre.refl _) (S.aside rfl) ⟨a, _, ha, rfl, rfl, rfl⟩ (SR.apart (s := { s with heap := h' }) S)
    · exact h3.elim
  · exact h3.elim

theorem glob_name (O : Ok Z G) (T : St Z G Sc env cl γ ρ ex fs L m μ σ s) {f : Expr} {nm : String} (h : isGlob Sc f nm = true) (hd : isDebug (Str.ofString nm) = false) {Q : Value → Shared → Prop} (hQ : Q (.type nm) s) : wpAny (model Z.prog Z.w) A (eval f env) Q E s := by
  unfold isGlob at h
  split at h
  · rename_i x pos
    rw [Bool.and_eq_true, Bool.and_eq_true] at h
    obtain ⟨⟨h1, h2⟩, h3⟩ := h
    have h1 := eq_of_beq h1
    have h2 := eq_of_beq h2
    have h3 := eq_of_beq h3
    subst h2
    obtain ⟨cv, mg, mb, e, hg, hx⟩ := O.glob _ _ (T.fe.sgl ▸ h3)
    cases e
    have hd1 : (Str.ofString nm == ("__debug__" : Str)) = false := by
      unfold isDebug at hd; rw [Bool.or_eq_false_iff] at hd; exact hd.1
    refine Name_function_global T.fe.kind (kind_ne T.fe h1 (by decide)) ?_ hd1
    rcases hx with hx | ⟨hx, hb, hx'⟩
    · exact loadGlobal_global (T.fe.glo ▸ hg.keeps T.sr.fr.keep) hx hQ
    · exact loadGlobal_builtin (T.fe.glo ▸ hg.keeps T.sr.fr.keep) hx (T.fe.bui ▸ hb.keeps T.sr.fr.keep) hx' hQ
  · cases h

theorem zipApart_of {S x y : Nat} (hx : x < S) (hy : y < S) : ZipApart (S + 4) (S + 2) (S + 3) S (S + 1) x y := by
  constructor <;> (show ¬ ((_ : Nat) = _); omega)

theorem evalI_zip {ci : CI} {a b : Nat} {σ' : Store} (h : evalI X γ ρ ci σ = .ok (.zip a b) σ') : ∃ x y, ci = .zip x y := by
  cases ci with
  | zip x y => exact ⟨x, y, rfl⟩
  | obj e =>
    rw [evalI] at h
    cases q : evalE X γ ρ e σ with
    | bad => rw [q] at h; cases h
    | exc k σ1 => rw [q] at h; cases h
    | ok v σ1 =>
      rw [q] at h
      simp only [RE.bind] at h
      split at h
      · split at h <;> cases h
      · cases h
  | range es =>
    rw [evalI] at h
    cases q : evalL X γ ρ es σ with
    | bad => rw [q] at h; cases h
    | exc k σ1 => rw [q] at h; cases h
    | ok v σ1 =>
      rw [q] at h
      simp only [RE.bind] at h
      cases q2 : rangeM v with
      | none => rw [q2] at h; cases h
      | some xs => rw [q2] at h; cases h
theorem zip_target {ci : CI} {t : Expr} (hz : zipFine ci t = true) {it : It} {σ' : Store} (h : evalI X γ ρ ci σ = .ok it σ') : ∀ n k, it = .zip n k → ∃ e c p, t = .Tuple e c p := by
  rintro a b rfl
  obtain ⟨x, y, rfl⟩ := evalI_zip h
  cases t <;> first | cases hz; done | exact ⟨_, _, _, rfl⟩

theorem hi_step {k : Nat} (O : Ok Z G) (he : HE Z G X A k) (hl : HL Z G X A k) : HI Z G X A (k + 1) := by
  intro Sc env cl γ ρ ex fs L m μ σ s E x ci Q c T h
  unfold cI at c
  split at c
  · rename_i f es pos
    split at c
    · rename_i hg
      obtain ⟨ces, h1, rfl⟩ := Option.map_eq_some_iff.mp c
      rw [evalI] at h
      have hf : ∀ o x p, f ≠ .Attribute o x p := by rintro o x p rfl; simp [isGlob] at hg
      have e0 : eval (.Call f es [] pos) env = (do callWith pos (← eval f env) [] (backTo pos (starEach es env)) (backToKw pos (keywordEach [] env))) := by
        cases f <;> first | rfl | exact absurd rfl (hf _ _ _)
      rw [e0]
      refine wpAny_bind (glob_name O T hg (by decide) ?_)
      refine PySem.callWith_type (star_none h1) ?_
      have key : wpAny (model Z.prog Z.w) A (spliced (backTo pos (starEach es env))) (fun vs s₁ => wpAny (model Z.prog Z.w) A (call (.type "range") vs) (fun x s₁ => wpAny (model Z.prog Z.w) A (pyIter x) Q E s₁) E s₁) E s :=
        hl h1 T (h.bind fun vs σ' μ' cvs h' tk p S rvs h3 => by
          obtain ⟨xs, hx, h3⟩ := h3.lift
          exact range_snd (s := { s with heap := h', toks := tk }) S rvs hx h3)
      cases es with
      | nil =>
        have : ces = .nil := by
          cases k with
          | zero => unfold cL at h1; cases h1
          | succ k => exact cL_nil h1
        subst this
        rw [evalL] at h
        exact h.elim
      | cons x r =>
        cases k with
        | zero => unfold cL at h1; cases h1
        | succ k =>
          obtain ⟨hx, _⟩ := cL_cons h1
          have e1 : backTo pos (starEach (x :: r) env) = (false, eval x env) :: backTo pos (starEach r env) := by rw [starEach_cons hx]; rfl
          rw [e1] at key ⊢
          exact evalArgs_plain key
    · split at c
      · rename_i hg
        split at c
        · rename_i a b
          obtain ⟨ca, h1, c⟩ := Option.bind_eq_some_iff.mp c
          obtain ⟨cb, h2, rfl⟩ := Option.map_eq_some_iff.mp c
          rw [evalI] at h
          have hf : ∀ o x p, f ≠ .Attribute o x p := by rintro o x p rfl; simp [isGlob] at hg
          have e0 : eval (.Call f [a, b] [] pos) env = (do callWith pos (← eval f env) [] (backTo pos (starEach [a, b] env)) (backToKw pos (keywordEach [] env))) := by
            cases f <;> first | rfl | exact absurd rfl (hf _ _ _)
          rw [e0]
          refine wpAny_bind (glob_name O T hg (by decide) ?_)
          have hsa : ∀ e p, a ≠ .Starred e p := by
            rintro e p rfl
            cases k with
            | zero => unfold cE at h1; cases h1
            | succ k => unfold cE at h1; cases h1
          have hsb : ∀ e p, b ≠ .Starred e p := by
            rintro e p rfl
            cases k with
            | zero => unfold cE at h2; cases h2
            | succ k => unfold cE at h2; cases h2
          have e1 : backTo pos (starEach [a, b] env) = [(false, eval a env), (false, eval b env)] := by rw [starEach_cons hsa, starEach_cons hsb]; rfl
          refine PySem.callWith_type (by rw [e1]; rfl) ?_
          rw [e1]
          refine evalArgs_plain (Calls.spliced_cons (he h1 T (h.bind fun v σ1 μ1 cv h1' t1 p1 S1 rv h3 => Calls.spliced_cons (he h2 (T.next p1 S1) (h3.bind fun w σ2 μ2 cw h2' t2 p2 S2 rw2 h4 => Calls.spliced_nil ?_)))))
          have rv' := rv.mono p2
          split at h4
          · rename_i j l
            obtain ⟨x, hx, rfl⟩ := rv'
            obtain ⟨y, hy, rfl⟩ := rw2
            split at h4
            · rename_i xs ys hj hl2
              obtain ⟨ob, g, r⟩ := S2.at' hj hx
              obtain ⟨vs, hvl, r, hsz, hz⟩ := r.isList g
              obtain ⟨ob', g', r'⟩ := S2.at' hl2 hy
              obtain ⟨us, hul, r', hsz', hz'⟩ := r'.isList g'
              refine call_zip_2 (s := { s with heap := h2', toks := t2 }) hvl hul fun h' z1 z2 z3 z4 z5 z6 z7 => ?_
              refine wpAny_pyIter_zip z1 ?_
              obtain ⟨n1, q1, q2, q3⟩ := z4
              obtain ⟨n2, q4, q5, q6⟩ := z5
              have hgen : ∀ c : Nat, h2'.objs.size ≤ c → c ≠ L ∧ Z.base.get? c = none ∧ c ∉ μ2 ∧ (∀ p ∈ ex, p.1 ≠ c) ∧ ∀ p ∈ fs, p.1 ≠ c := fun c hc => by
                refine ⟨Nat.ne_of_gt (Nat.lt_of_lt_of_le S2.fr.ns.lt hc), ?_, fun q => Nat.lt_irrefl _ (Nat.lt_of_lt_of_le (S2.lt q) hc), fun p hp => Nat.ne_of_lt (Nat.lt_of_lt_of_le (Heap.lt_size (S2.ex p hp).1) hc), fun p hp => ?_⟩
                · cases q : Z.base.get? c with
                  | none => rfl
                  | some o => exact absurd (Nat.lt_of_lt_of_le (S2.baseLe q) hc) (Nat.lt_irrefl _)
                · obtain ⟨⟨o, g, _⟩, _⟩ := S2.fs p hp
                  exact Nat.ne_of_lt (Nat.lt_of_lt_of_le (Heap.lt_size g) hc)
              have S3 : SR Z ex fs L m μ2 σ2 h' := S2.keeps z7
              have own_ok : ∀ p ∈ ([(h2'.objs.size + 4, zipObj (h2'.objs.size + 2) (h2'.objs.size + 3)), (h2'.objs.size + 2, pairObj (.ref h2'.objs.size) (.ref (h2'.objs.size + 1))), (h2'.objs.size + 3, pairObj .none .none), (h2'.objs.size, n1), (h2'.objs.size + 1, n2)] : List (Addr × Obj)),
                  h'.get? p.1 = some p.2 ∧ h2'.objs.size ≤ p.1 := fun p hp => by
                simp at hp
                rcases hp with rfl | rfl | rfl | rfl | rfl
                · exact ⟨z1, Nat.le_add_right _ _⟩
                · exact ⟨z2, Nat.le_add_right _ _⟩
                · exact ⟨z3, Nat.le_add_right _ _⟩
                · exact ⟨q1, Nat.le_refl _⟩
                · exact ⟨q4, Nat.le_add_right _ _⟩
              have lx : x < h2'.objs.size := Heap.lt_size g
              have ly : y < h2'.objs.size := Heap.lt_size g'
              refine h4 μ2 _ _ h' t2 (Pre.refl _) { S3 with ex := fun p hp => ?_ } ⟨x, y, h2'.objs.size + 2, h2'.objs.size + 3, h2'.objs.size, h2'.objs.size + 1, n1, n2, .none, .none, hx, hy, rfl, ?_, ⟨q2, q3⟩, q5, q6⟩ (fun p hp => ?_)
              · rcases List.mem_append.mp hp with hp | hp
                · obtain ⟨e, l⟩ := own_ok p hp
                  obtain ⟨b1, b2, b3, _⟩ := hgen p.1 l
                  exact ⟨e, b1, b2, b3⟩
                · exact S3.ex p hp
              · exact zipApart_of lx ly
              · obtain ⟨e, l⟩ := own_ok p hp
                obtain ⟨_, _, _, b4, b5⟩ := hgen p.1 l
                exact ⟨b4, b5⟩
            · exact h4.elim
          · exact h4.elim
        · cases c
      · obtain ⟨ce, h1, rfl⟩ := Option.map_eq_some_iff.mp c
        exact iter_obj he h1 T h
  · obtain ⟨ce, h1, rfl⟩ := Option.map_eq_some_iff.mp c
    exact iter_obj he h1 T h
end
end Mini

end

section
set_option autoImplicit false
namespace Mini
open PySem PySem.W PySem.Calls PyProof PyProof.Rows PyProof.V PySem.Spec PySem.SeqAt

def PK (Z : Cx) (ex : List (Addr × Obj)) (fs : List (Addr × Data)) (L : Addr) (μ : List Addr) (s : Shared) (ρ : Loc) (σ : Store) (P : Shared → Prop) : Prop :=
  ∀ μ' m' h' tk, Pre μ μ' → SR Z ex fs L m' μ' σ h' → FRel μ' ρ m' → P { s with heap := h', toks := tk }

@[irreducible] def ExcPostS (_Z : Cx) (_ex : List (Addr × Obj)) (_fs : List (Addr × Data)) (_L : Addr) (_μ : List Addr) (_s : Shared) (_E : Value → Shared → Prop) (_k : EK) (_ρ : Loc) (_σ : Store) : Prop := False

def PostS (Z : Cx) (ex : List (Addr × Obj)) (fs : List (Addr × Data)) (L : Addr) (μ : List Addr) (s : Shared) (Q : Flow → Shared → Prop) (E : Value → Shared → Prop) : RS → Prop
  | .nxt ρ σ => PK Z ex fs L μ s ρ σ (Q .next)
  | .brk ρ σ => PK Z ex fs L μ s ρ σ (Q .brk)
  | .cont ρ σ => PK Z ex fs L μ s ρ σ (Q .cont)
  | .ret v ρ σ => ∀ μ' m' h' tk cv, Pre μ μ' → SR Z ex fs L m' μ' σ h' → FRel μ' ρ m' → VR μ' v cv → Q (.ret cv) { s with heap := h', toks := tk }
  | .exc k ρ σ => ExcPostS Z ex fs L μ s E k ρ σ
  | .bad => False

section
variable {Z : Cx} {G : Str → Option AV} {Sc : Mini.Sc} {env : Env} {cl : List (Str × Addr)} {γ : List (Str × Nat)} {ρ : Loc} {ex own : List (Addr × Obj)} {fs : List (Addr × Data)} {L I : Addr} {m : Str → Option Value} {μ : List Addr} {σ : Store} {s : Shared} {A : Around} {E : Value → Shared → Prop} {X : IX} {n i : Nat} {it : It}

theorem ExcPostS.no {k : EK} {P : Prop} (h : ExcPostS Z ex fs L μ s E k ρ σ) : P := by unfold ExcPostS at h; exact h.elim
theorem ExcPost.no {k : EK} {P : Prop} (h : ExcPost Z ex fs L m μ s E k σ) : P := by unfold ExcPost at h; exact h.elim

theorem PK.up {P : Shared → Prop} {μ' : List Addr} {h' : Heap} {tk : Nat} (p : Pre μ μ') (h : PK Z ex fs L μ s ρ σ P) : PK Z ex fs L μ' { s with heap := h', toks := tk } ρ σ P :=
  fun μ'' m'' h'' tk' p' S fr => h μ'' m'' h'' tk' (p.trans p') S fr
theorem PostS.up {Q : Flow → Shared → Prop} {r : RS} {μ' : List Addr} {h' : Heap} {tk : Nat} (p : Pre μ μ') (h : PostS Z ex fs L μ s Q E r) : PostS Z ex fs L μ' { s with heap := h', toks := tk } Q E r := by
  cases r with
  | nxt ρ σ => exact PK.up p h
  | brk ρ σ => exact PK.up p h
  | cont ρ σ => exact PK.up p h
  | ret v ρ σ => exact fun μ'' m'' h'' tk' cv p' S fr rv => h μ'' m'' h'' tk' cv (p.trans p') S fr rv
  | exc k ρ σ => exact ExcPostS.no h
  | bad => exact h
/-- an exception's end may be told otherwise: none arises -/
theorem PostS.anyE {Q : Flow → Shared → Prop} {E' : Value → Shared → Prop} {r : RS} (h : PostS Z ex fs L μ s Q E r) : PostS Z ex fs L μ s Q E' r := by
  cases r with
  | exc k ρ σ => exact ExcPostS.no h
  | bad => exact h
  | _ => exact h
theorem PostS.bind {α β : Type} {R : List Addr → α → β → Prop} {Q : Flow → Shared → Prop} {Q' : β → Shared → Prop} {E' : Value → Shared → Prop} {r : RE α} {f : α → Store → RS} (hp : PostS Z ex fs L μ s Q E (r.then ρ f))
    (k : ∀ v σ' μ' b h' tk, Pre μ μ' → SR Z ex fs L m μ' σ' h' → R μ' v b → PostS Z ex fs L μ' { s with heap := h', toks := tk } Q E (f v σ') → Q' b { s with heap := h', toks := tk }) :
    Post Z ex fs L m R μ s Q' E' r := by
  cases r with
  | ok v σ' => exact fun μ' b h' tk p S x => k v σ' μ' b h' tk p S x (PostS.up p hp)
  | exc k' σ' => exact ExcPostS.no hp
  | bad => exact hp
theorem PostS.lift {α : Type} {Q : Flow → Shared → Prop} {o : Option α} {f : α → Store → RS} (hp : PostS Z ex fs L μ s Q E ((Mini.lift o σ).then ρ f)) : ∃ a, o = some a ∧ PostS Z ex fs L μ s Q E (f a σ) := by
  cases o with
  | none => exact hp.elim
  | some a => exact ⟨a, rfl, hp⟩
theorem PostS.here {Q : Flow → Shared → Prop} (T : St Z G Sc env cl γ ρ ex fs L m μ σ s) (h : PostS Z ex fs L μ s Q E (.nxt ρ σ)) {tk : Nat} : Q .next { s with toks := tk } := h μ m s.heap tk (Pre.refl _) T.sr T.fr
theorem PostS.here0 {Q : Flow → Shared → Prop} (T : St Z G Sc env cl γ ρ ex fs L m μ σ s) (h : PostS Z ex fs L μ s Q E (.nxt ρ σ)) : Q .next s := h μ m s.heap s.toks (Pre.refl _) T.sr T.fr

def HS (Z : Cx) (G : Str → Option AV) (X : IX) (A : Around) (fuel : Nat) : Prop :=
  ∀ {Sc : Mini.Sc} {env : Env} {cl : List (Str × Addr)} {γ : List (Str × Nat)} {ρ : Loc} {ex : List (Addr × Obj)} {fs : List (Addr × Data)} {L : Addr} {m : Str → Option Value} {μ : List Addr} {σ : Store} {s : Shared} {E : Value → Shared → Prop} {st : Stmt} {cs : CS} {Q : Flow → Shared → Prop},
    cS Sc fuel st = some cs → St Z G Sc env cl γ ρ ex fs L m μ σ s → PostS Z ex fs L μ s Q E (exec X γ cs ρ σ) → wpAny (model Z.prog Z.w) A (PySem.exec st env) Q E s
def HBl (Z : Cx) (G : Str → Option AV) (X : IX) (A : Around) (fuel : Nat) : Prop :=
  ∀ {Sc : Mini.Sc} {env : Env} {cl : List (Str × Addr)} {γ : List (Str × Nat)} {ρ : Loc} {ex : List (Addr × Obj)} {fs : List (Addr × Data)} {L : Addr} {m : Str → Option Value} {μ : List Addr} {σ : Store} {s : Shared} {E : Value → Shared → Prop} {b : List Stmt} {cb : CB} {Q : Flow → Shared → Prop},
    cB Sc fuel b = some cb → St Z G Sc env cl γ ρ ex fs L m μ σ s → PostS Z ex fs L μ s Q E (execs X γ cb ρ σ) → wpAny (model Z.prog Z.w) A (PySem.execs b env) Q E s

theorem hbl_step {k : Nat} (hs : HS Z G X A k) (hb : HBl Z G X A k) : HBl Z G X A (k + 1) := by
  intro Sc env cl γ ρ ex fs L m μ σ s E b cb Q c T h
  cases b with
  | nil =>
    unfold cB at c
    cases c
    rw [execs] at h
    exact wpAny_execs_nil (h.here0 T)
  | cons st r =>
    unfold cB at c
    obtain ⟨cs, h1, c⟩ := Option.bind_eq_some_iff.mp c
    obtain ⟨cr, h2, rfl⟩ := Option.map_eq_some_iff.mp c
    rw [execs] at h
    refine wpAny_execs_cons (hs h1 T ?_)
    cases q : exec X γ cs ρ σ with
    | nxt ρ' σ' =>
      rw [q] at h
      have h : PostS Z ex fs L μ s Q E (execs X γ cr ρ' σ') := h
      exact fun μ' m' h' tk p S fr => hb h2 ⟨T.fe, S, fr, T.gr.mono p⟩ (PostS.up p h)
    | brk ρ' σ' => rw [q] at h; exact h
    | cont ρ' σ' => rw [q] at h; exact h
    | ret v ρ' σ' => rw [q] at h; exact h
    | exc e ρ' σ' => rw [q] at h; exact ExcPostS.no h
    | bad => rw [q] at h; exact h

theorem st_expr {k : Nat} (he : HE Z G X A k) {x : Expr} {pos : Pos} {ce : CE} {Q : Flow → Shared → Prop} (hc : isComp x = false) (c : cE Sc k x = some ce) (T : St Z G Sc env cl γ ρ ex fs L m μ σ s) (h : PostS Z ex fs L μ s Q E (exec X γ (.expr ce) ρ σ)) :
    wpAny (model Z.prog Z.w) A (PySem.exec (.Expr x pos) env) Q E s := by
  rw [exec] at h
  refine wpAny_Expr_any (he c T (h.bind fun v σ' μ' cv h' tk p S rv h3 => h3.here0 (T.next p S))) ?_ ?_
  · unfold interactive; rw [T.fe.kind]; rfl
  · cases x <;> first | rfl | cases hc

theorem st_ret {k : Nat} (he : HE Z G X A k) {x : Expr} {pos : Pos} {ce : CE} {Q : Flow → Shared → Prop} (c : cE Sc k x = some ce) (T : St Z G Sc env cl γ ρ ex fs L m μ σ s) (h : PostS Z ex fs L μ s Q E (exec X γ (.ret ce) ρ σ)) :
    wpAny (model Z.prog Z.w) A (PySem.exec (.Return (some x) pos) env) Q E s := by
  rw [exec] at h
  exact wpAny_Return_some (he c T (h.bind fun v σ' μ' cv h' tk p S rv h3 => h3 μ' m h' tk cv (Pre.refl _) S (T.fr.mono p) rv))

theorem st_ite {k : Nat} (ht : HTr Z G X A k) (hb : HBl Z G X A k) {x : Expr} {a b : List Stmt} {pos : Pos} {ce : CE} {ca cb : CB} {Q : Flow → Shared → Prop} (c : cE Sc k x = some ce) (h1 : cB Sc k a = some ca) (h2 : cB Sc k b = some cb) (T : St Z G Sc env cl γ ρ ex fs L m μ σ s)
    (h : PostS Z ex fs L μ s Q E (exec X γ (.ite ce ca cb) ρ σ)) : wpAny (model Z.prog Z.w) A (PySem.exec (.If x a b pos) env) Q E s := by
  rw [exec] at h
  refine wpAny_If (ht c T (h.bind fun v σ' μ' cv h' tk p S rv h3 => ?_))
  cases rv
  cases v with
  | true => exact hb h1 (T.next p S) h3
  | false => exact hb h2 (T.next p S) h3

theorem st_while {k : Nat} (ht : HTr Z G X A k) (hb : HBl Z G X A k) {x : Expr} {b : List Stmt} {pos : Pos} {ce : CE} {cb : CB} {Q : Flow → Shared → Prop} (c : cE Sc k x = some ce) (h1 : cB Sc k b = some cb) (T : St Z G Sc env cl γ ρ ex fs L m μ σ s)
    (h : PostS Z ex fs L μ s Q E (exec X γ (.whil ce cb) ρ σ)) : wpAny (model Z.prog Z.w) A (PySem.exec (.While x b [] pos) env) Q E s := by
  rw [exec] at h
  refine wpAny_While (codeAny_whileLoop
    (fun w s' => ∃ ρ σ μ m, St Z G Sc env cl γ ρ ex fs L m μ σ s' ∧ PostS Z ex fs L μ s' Q E (loopW (fun ρ σ => evalT X γ ρ ce σ) (fun ρ σ => execs X γ cb ρ σ) w ρ σ)) ?_ X.W ⟨ρ, σ, μ, m, T, h⟩)
  rintro w s' ⟨ρ, σ, μ, m, T, h⟩
  cases w with
  | zero => exact h.elim
  | succ w =>
    rw [loopW] at h
    refine ht c T (h.bind fun v σ1 μ1 cv h1' t1 p1 S1 rv h3 => ?_)
    cases rv
    cases v with
    | false =>
      simp only [Bool.false_eq_true, if_false] at h3 ⊢
      exact wpAny_execs_nil (h3.here0 (T.next p1 S1))
    | true =>
      simp only [if_true] at h3 ⊢
      have T1 := T.next (tk := t1) p1 S1
      refine hb h1 T1 ?_
      cases q : execs X γ cb ρ σ1 with
      | nxt ρ' σ' =>
        rw [q] at h3
        exact fun μ' m' h' tk p S fr => ⟨w, Nat.lt_succ_self _, ρ', σ', μ', m', ⟨T.fe, S, fr, T1.gr.mono p⟩, PostS.up p h3⟩
      | cont ρ' σ' =>
        rw [q] at h3
        exact fun μ' m' h' tk p S fr => ⟨w, Nat.lt_succ_self _, ρ', σ', μ', m', ⟨T.fe, S, fr, T1.gr.mono p⟩, PostS.up p h3⟩
      | brk ρ' σ' => rw [q] at h3; exact h3
      | ret v ρ' σ' => rw [q] at h3; exact h3
      | exc e ρ' σ' => rw [q] at h3; exact ExcPostS.no h3
      | bad => rw [q] at h3; exact h3

theorem ItS.mono {μ' : List Addr} (p : Pre μ μ') (h : ItS μ it i I own) : ItS μ' it i I own := by
  cases it with
  | lst n => obtain ⟨a, o, ha, r⟩ := h; exact ⟨a, o, p.get ha, r⟩
  | tpl n => obtain ⟨a, o, ha, r⟩ := h; exact ⟨a, o, p.get ha, r⟩
  | items xs => exact h
  | zip n k =>
    obtain ⟨a, b, TI, TO, i1, i2, o1, o2, x, y, ha, hb, r⟩ := h
    exact ⟨a, b, TI, TO, i1, i2, o1, o2, x, y, p.get ha, p.get hb, r⟩

theorem SR.lessAll : ∀ {own : List (Addr × Obj)} {h : Heap}, SR Z (own ++ ex) fs L m μ σ h → SR Z ex fs L m μ σ h
  | [], _, S => S
  | _ :: r, _, S => SR.lessAll (own := r) S.less

theorem Apart.keys {own own' : List (Addr × Obj)} (a : Apart own ex fs) (h : own'.map (·.1) = own.map (·.1)) : Apart own' ex fs := by
  intro p hp
  have : p.1 ∈ own.map (·.1) := by rw [← h]; exact List.mem_map_of_mem hp
  obtain ⟨q, hq, e⟩ := List.mem_map.mp this
  rw [← e]
  exact a q hq

theorem st_for {k : Nat} (hh : A.handled = none) (ha : HA Z G X A k) (hi : HI Z G X A k) (hb : HBl Z G X A k) {t x : Expr} {b : List Stmt} {pos : Pos} {ct : CT} {ci : CI} {cb : CB} {Q : Flow → Shared → Prop} (h0 : cT Sc k t = some ct) (c : cI Sc k x = some ci) (h1 : cB Sc k b = some cb)
    (hzf : zipFine ci t = true) (hx : ∀ v, foldedSetIterable x env v = pure v) (T : St Z G Sc env cl γ ρ ex fs L m μ σ s)
    (h : PostS Z ex fs L μ s Q E (exec X γ (.forr ct ci cb) ρ σ)) : wpAny (model Z.prog Z.w) A (PySem.exec (.For t x b [] pos) env) Q E s := by
  rw [exec] at h
  refine wpAny_For (hi c T ?_) hx
  cases q : evalI X γ ρ ci σ with
  | bad => rw [q] at h; exact h
  | exc e σ' => rw [q] at h; exact ExcPostS.no h
  | ok it σ0 =>
    rw [q] at h
    have h : PostS Z ex fs L μ s Q E (loopF (nextIt it) (fun v ρ σ => assignT X γ ρ ct v σ) (fun ρ σ => execs X γ cb ρ σ) X.W 0 ρ σ0) := h
    intro μ0 I own0 h0' tk0 p0 S0 J0 ap0
    refine codeAny_forLoop_any
      (fun w s' => ∃ i ρ σ μ own m, St Z G Sc env cl γ ρ (own ++ ex) fs L m μ σ s' ∧ ItS μ it i I own ∧ Apart own ex fs ∧ PostS Z ex fs L μ s' Q E (loopF (nextIt it) (fun v ρ σ => assignT X γ ρ ct v σ) (fun ρ σ => execs X γ cb ρ σ) w i ρ σ)) ?_ X.W
      ⟨0, ρ, σ0, μ0, own0, m, ⟨T.fe, S0, T.fr.mono p0, T.gr.mono p0⟩, J0, ap0, PostS.up p0 h⟩
    rintro w s' ⟨i, ρ, σ, μ, own, m, T, J, ap, h⟩
    cases w with
    | zero => exact h.elim
    | succ w =>
      rw [loopF] at h
      refine next_snd hh (zip_target hzf q) T.sr J ap ?_
      cases hn : nextIt it i σ with
      | bad => rw [hn] at h; exact h
      | stop =>
        rw [hn] at h
        intro h' tk S
        exact wpAny_execs_nil (h μ m h' tk (Pre.refl _) S T.fr)
      | item v σ1 =>
        rw [hn] at h
        have h : PostS Z ex fs L μ s' Q E ((assignT X γ ρ ct v σ1).then ρ fun ρ σ => (match execs X γ cb ρ σ with
          | .nxt ρ σ => loopF (nextIt it) (fun v ρ σ => assignT X γ ρ ct v σ) (fun ρ σ => execs X γ cb ρ σ) w (i + 1) ρ σ
          | .cont ρ σ => loopF (nextIt it) (fun v ρ σ => assignT X γ ρ ct v σ) (fun ρ σ => execs X γ cb ρ σ) w (i + 1) ρ σ
          | .brk ρ σ => .nxt ρ σ
          | r => r)) := h
        intro cv own1 μ1 h1' t1 p1 S1 J1 hk rv
        have ap1 := ap.keys hk
        have T1 : St Z G Sc env cl γ ρ (own1 ++ ex) fs L m μ1 σ1 { s' with heap := h1', toks := t1 } := ⟨T.fe, S1, T.fr.mono p1, T.gr.mono p1⟩
        refine ha h0 T1 rv ?_
        have h := PostS.up (h' := h1') (tk := t1) p1 h
        cases qa : assignT X γ ρ ct v σ1 with
        | bad => rw [qa] at h; exact h
        | exc e σ' => rw [qa] at h; exact ExcPostS.no h
        | ok ρ2 σ2 =>
          rw [qa] at h
          simp only [RE.then] at h
          intro μ2 m2 h2' t2 p2 S2 fr2
          have h := PostS.up (h' := h2') (tk := t2) p2 h
          have J2 : ItS μ2 it (i + 1) I own1 := ItS.mono p2 J1
          refine hb h1 (E := fun e s' => _) ⟨T.fe, S2, fr2, (T.gr.mono p1).mono p2⟩ ?_
          cases qb : execs X γ cb ρ2 σ2 with
          | nxt ρ3 σ3 =>
            rw [qb] at h
            exact fun μ' m' h' tk p S fr => ⟨w, Nat.lt_succ_self _, i + 1, ρ3, σ3, μ', own1, m', ⟨T.fe, S, fr, ((T.gr.mono p1).mono p2).mono p⟩, ItS.mono p J2, ap1, PostS.up p h⟩
          | cont ρ3 σ3 =>
            rw [qb] at h
            exact fun μ' m' h' tk p S fr => ⟨w, Nat.lt_succ_self _, i + 1, ρ3, σ3, μ', own1, m', ⟨T.fe, S, fr, ((T.gr.mono p1).mono p2).mono p⟩, ItS.mono p J2, ap1, PostS.up p h⟩
          | brk ρ3 σ3 =>
            rw [qb] at h
            exact fun μ' m' h' tk p S fr => h μ' m' h' tk p S.lessAll fr
          | ret v ρ3 σ3 =>
            rw [qb] at h
            exact fun μ' m' h' tk cv p S fr rv => h μ' m' h' tk cv p S.lessAll fr rv
          | exc e ρ' σ' => rw [qb] at h; exact ExcPostS.no h
          | bad => rw [qb] at h; exact h
end
end Mini

end

section
set_option autoImplicit false
namespace Mini
open PySem PySem.W PySem.Calls PyProof PyProof.Rows PyProof.V PySem.Spec PySem.SeqAt

section
variable {Z : Cx} {G : Str → Option AV} {Sc : Mini.Sc} {env : Env} {cl : List (Str × Addr)} {γ : List (Str × Nat)} {ρ : Loc} {ex own : List (Addr × Obj)} {fs : List (Addr × Data)} {L I : Addr} {m : Str → Option Value} {μ : List Addr} {σ : Store} {s : Shared} {A : Around} {E : Value → Shared → Prop} {X : IX} {n i : Nat} {it : It}

def nameAt (env : Env) (line : Nat) : Expr → Option Str
  | .Name id pos => if env.kindOf id == some .local && pos.line == line then some id else none
  | _ => none
theorem nameAt_some {line : Nat} {t : Expr} {x : Str} (h : nameAt env line t = some x) : ∃ p, t = .Name x p ∧ env.kindOf x = some .local := by
  unfold nameAt at h
  split at h
  · rename_i id pos
    split at h
    · rename_i q
      cases h
      rw [Bool.and_eq_true] at q
      exact ⟨pos, rfl, eq_of_beq q.1⟩
    · cases h
  · cases h
theorem filterMap_full {α β : Type} {f : α → Option β} : ∀ {l : List α}, (l.filterMap f).length = l.length → All2 (fun a b => f a = some b) l (l.filterMap f)
  | [], _ => .nil
  | a :: l, h => by
    rw [List.filterMap_cons] at h ⊢
    cases ha : f a with
    | none =>
      rw [ha] at h
      have := List.length_filterMap_le f l
      simp only [List.length_cons] at h
      omega
    | some b =>
      rw [ha] at h
      exact .cons ha (filterMap_full (by simpa using h))

theorem nodup_of_erase {l : List Str} (h : l.eraseDups.length = l.length) : l.length ≤ 3 → (∀ i j : Nat, i < j → ∀ a b, l[i]? = some a → l[j]? = some b → a ≠ b) := by
  intro hl
  match l, hl with
  | [], _ => intro i j _ a b h1; simp at h1
  | [x], _ =>
    intro i j hij a b h1 h2
    have := (List.getElem?_eq_some_iff.mp h2).1
    simp at this; omega
  | [x, y], _ =>
    have hxy : x ≠ y := by
      rintro rfl
      simp [List.eraseDups_cons] at h
    intro i j hij a b h1 h2
    have := (List.getElem?_eq_some_iff.mp h2).1
    simp at this
    obtain ⟨rfl, rfl⟩ : i = 0 ∧ j = 1 := by omega
    simp at h1 h2; subst h1 h2; exact hxy
  | [x, y, z], _ =>
    have hxy : x ≠ y ∧ x ≠ z ∧ y ≠ z := by
      refine ⟨?_, ?_, ?_⟩
      · rintro rfl
        simp [List.eraseDups_cons, List.filter_cons] at h
        split at h <;> simp [List.eraseDups_cons] at h
      · rintro rfl
        simp [List.eraseDups_cons, List.filter_cons] at h
        split at h <;> simp [List.eraseDups_cons] at h
      · rintro rfl
        simp [List.eraseDups_cons, List.filter_cons] at h
        split at h <;> simp [List.eraseDups_cons] at h
    intro i j hij a b h1 h2
    have := (List.getElem?_eq_some_iff.mp h2).1
    simp at this
    rcases (show (i = 0 ∧ j = 1) ∨ (i = 0 ∧ j = 2) ∨ (i = 1 ∧ j = 2) by omega) with ⟨rfl, rfl⟩ | ⟨rfl, rfl⟩ | ⟨rfl, rfl⟩
    · simp at h1 h2; subst h1 h2; exact hxy.1
    · simp at h1 h2; subst h1 h2; exact hxy.2.1
    · simp at h1 h2; subst h1 h2; exact hxy.2.2

theorem swapped_cases {t v : Expr} (hf : swapFine t v = true) : swappedStores [t] v env = pure none ∨
    ∃ ts k p vs k' p' names, t = .Tuple ts k p ∧ v = .Tuple vs k' p' ∧ swappedStores [t] v env = pure (some names) ∧ All2 (fun a b => ∃ p, a = .Name b p ∧ env.kindOf b = some .local) ts names ∧ ts.length ≤ 3 ∧ 2 ≤ ts.length ∧
      (∀ i j : Nat, i < j → ∀ a b, names[i]? = some a → names[j]? = some b → a ≠ b) := by
  by_cases hs : ∃ ts k p vs k' p', t = .Tuple ts k p ∧ v = .Tuple vs k' p'
  · obtain ⟨ts, k, p, vs, k', p', rfl, rfl⟩ := hs
    unfold swappedStores
    dsimp only
    split
    · exact .inl rfl
    · rename_i h1
      split
      · exact .inl rfl
      · split
        · exact .inl rfl
        · rename_i h3
          split
          · exact .inl rfl
          · rename_i h4
            split
            · rename_i h5
              have hf : (vs.all (foldedForSure 8) || !vs.all (constantsAlone 8)) = true := hf
              rw [h5] at hf
              simp at hf h4
              exact absurd hf (by simpa using h4)
            · right
              refine ⟨ts, k, p, vs, k', p', _, rfl, rfl, rfl, ?_, ?_, ?_, ?_⟩
              · simp only [Bool.or_eq_true, bne_iff_ne, ne_eq, not_or, Decidable.not_not] at h3
                refine (filterMap_full h3.1).imp fun a b hab => ?_
                exact (nameAt_some (line := (Option.map (fun x : Expr => x.pos.line) ts.head?).getD 0) (t := a) hab).imp fun p x => x
              · simp at h1; omega
              · simp at h1; omega
              · simp only [Bool.or_eq_true, bne_iff_ne, ne_eq, not_or, Decidable.not_not] at h3
                refine nodup_of_erase h3.2 ?_
                rw [h3.1]
                simp at h1; omega
  · left
    unfold swappedStores
    split
    · rename_i h
      exfalso
      cases t <;> try (cases h; done)
      · cases v <;> try (cases h; done)
        cases hf
      · cases v <;> try (cases h; done)
        exact hs ⟨_, _, _, _, _, _, rfl, rfl⟩
    · rfl
end
end Mini

end

section
set_option autoImplicit false
namespace Mini
open PySem PySem.W PySem.Calls PyProof PyProof.Rows PyProof.V PySem.Spec PySem.SeqAt

section
variable {Z : Cx} {G : Str → Option AV} {Sc : Mini.Sc} {env : Env} {cl : List (Str × Addr)} {γ : List (Str × Nat)} {ρ : Loc} {ex own : List (Addr × Obj)} {fs : List (Addr × Data)} {L L' I : Addr} {m m' : Str → Option Value} {μ : List Addr} {σ : Store} {s : Shared} {A : Around} {E : Value → Shared → Prop} {X : IX} {n i : Nat} {it : It}

/-- a new frame on top -/
theorem SR.enter {h h' : Heap} (S : SR Z ex fs L m μ σ h) {o : Obj} (hn : h'.Ns h.objs.size m') (hs : Heap.SameBut h.objs.size (h.push o) h') :
    ∃ d, SR Z ex ((L, d) :: fs) h.objs.size m' μ σ h' ∧ ∃ o, h.get? L = some o ∧ o.data = d := by
  obtain ⟨oL, es, ep, hL, hd, hk⟩ := S.fr.ns
  have keep : ∀ b o, h.get? b = some o → h'.get? b = some o := fun b o e => (hs.2 b (Nat.ne_of_lt (Heap.lt_size e))).trans (Heap.get?_push_of_some _ e)
  obtain ⟨f1, f2, f3, f4, f5⟩ := S.fresh
  refine ⟨oL.data, {
    fr := ⟨hn, fun b o e => keep b o (S.fr.keep b o e), Nat.le_trans S.fr.above (Nat.le_of_lt S.fr.ns.lt)⟩
    ex := fun p hp => by
      obtain ⟨x, b, c, d⟩ := S.ex p hp
      exact ⟨keep _ _ x, f4 p hp, c, d⟩
    fs := fun p hp => by
      rcases List.mem_cons.mp hp with rfl | hp
      · refine ⟨⟨oL, keep _ _ hL, rfl⟩, fun q => f2 q.symm, ?_, fun q => (S.own _ q).1 rfl⟩
        cases q : Z.base.get? L with
        | none => rfl
        | some o => exact absurd (Nat.lt_of_lt_of_le (Heap.lt_size q) S.fr.above) (Nat.lt_irrefl _)
      · obtain ⟨⟨o, x, y⟩, b, c, d⟩ := S.fs p hp
        exact ⟨⟨o, keep _ _ x, y⟩, f5 p hp, c, d⟩
    len := S.len
    nodup := S.nodup
    own := fun a ha => ⟨fun q => f1 (q ▸ ha), (S.own a ha).2⟩
    obj := fun n o a e ha => by
      obtain ⟨ob, x, y⟩ := S.obj n o a e ha
      exact ⟨ob, keep _ _ x, y⟩ }, oL, hL, rfl⟩

theorem Ns.of_data {h h' : Heap} {a : Addr} {o o' : Obj} (hn : h.Ns a m) (g : h.get? a = some o) (g' : h'.get? a = some o') (e : o'.data = o.data) : h'.Ns a m := by
  obtain ⟨o₁, es, ep, h1, h2, h3⟩ := hn
  rw [g] at h1; cases h1
  exact ⟨o', es, ep, g', e.trans h2, h3⟩

/-- back to the frame beneath: the upper one stands aside -/
theorem SR.leave {h₀ h : Heap} {d : Data} {o₀ : Obj} (S : SR Z ex ((L, d) :: fs) L' m' μ σ h) (hn : h₀.Ns L m) (g : h₀.get? L = some o₀) (hd : o₀.data = d) (ha : Z.base.objs.size ≤ L) (hx : ∀ p ∈ ex, p.1 ≠ L) (hf : ∀ p ∈ fs, p.1 ≠ L) :
    ∃ o, h.get? L' = some o ∧ SR Z ((L', o) :: ex) fs L m μ σ h := by
  obtain ⟨oL, es, ep, hL, _⟩ := S.fr.ns
  obtain ⟨⟨o1, g1, e1⟩, a1, b1, c1⟩ := S.fs _ (.head _)
  refine ⟨oL, hL, {
    fr := ⟨Ns.of_data hn g g1 (by rw [e1, hd]), S.fr.keep, ha⟩
    ex := fun p hp => by
      rcases List.mem_cons.mp hp with rfl | hp
      · refine ⟨hL, fun q => a1 q.symm, ?_, fun q => (S.own _ q).1 rfl⟩
        cases q : Z.base.get? L' with
        | none => rfl
        | some o => exact absurd (Nat.lt_of_lt_of_le (Heap.lt_size q) S.fr.above) (Nat.lt_irrefl _)
      · obtain ⟨x, b, c, d⟩ := S.ex p hp
        exact ⟨x, hx p hp, c, d⟩
    fs := fun p hp => by
      obtain ⟨x, b, c, d⟩ := S.fs p (.tail _ hp)
      exact ⟨x, hf p hp, c, d⟩
    len := S.len
    nodup := S.nodup
    own := fun a ha => ⟨fun q => c1 (q ▸ ha), (S.own a ha).2⟩
    obj := S.obj }⟩

theorem closure_snd {sc : Scope} (fe : FE G Sc env L cl) (hs : scFine Sc.kind sc = true) :
    ∃ cl', closureFor sc env = pure cl' ∧ (∀ x c, cl'.lookup x = some c → cl.lookup x = some c) ∧ ∀ x, sc.names.lookup x = some .free → (cl'.lookup x).isSome = true := by
  have key : ∀ (l : List (Str × NameKind)) (acc : List (Str × Addr)), (∀ p ∈ l, p.2 = .free → (cl.lookup p.1).isSome = true) → (∀ x c, acc.lookup x = some c → cl.lookup x = some c) →
      ∃ cl', (forIn l acc fun (p : Str × NameKind) (cs : List (Str × Addr)) => (match p with | (name, kind) => if (kind == .free) = true then (do let __do_lift ← cellOf env name; pure (ForInStep.yield ((name, __do_lift) :: cs))) else pure (ForInStep.yield cs) : Sem (ForInStep (List (Str × Addr))))) = pure cl' ∧
        (∀ x c, cl'.lookup x = some c → cl.lookup x = some c) ∧ (∀ x, (acc.lookup x).isSome = true → (cl'.lookup x).isSome = true) ∧ ∀ p ∈ l, p.2 = .free → (cl'.lookup p.1).isSome = true := by
    intro l
    induction l with
    | nil => intro acc _ h; exact ⟨acc, rfl, h, fun _ h => h, fun p hp => by cases hp⟩
    | cons p r ih =>
      intro acc hl ha
      obtain ⟨x, k⟩ := p
      rw [List.forIn_cons]
      by_cases hk : k = .free
      · subst hk
        obtain ⟨c, hc⟩ := Option.isSome_iff_exists.mp (hl _ (.head _) rfl)
        have e1 : cellOf env x = pure c := by unfold cellOf; rw [fe.cel, hc]
        simp only [beq_self_eq_true, if_true, e1]
        obtain ⟨cl', h1, h2, h3, h4⟩ := ih ((x, c) :: acc) (fun p hp => hl p (.tail _ hp)) fun y d hy => by
          rw [List.lookup_cons] at hy
          split at hy
          · rename_i e; cases hy; rw [eq_of_beq e]; exact hc
          · exact ha y d hy
        refine ⟨cl', ?_, h2, fun y hy => h3 y (by rw [List.lookup_cons]; split <;> first | rfl | exact hy), fun p hp => ?_⟩
        · exact h1
        · rcases List.mem_cons.mp hp with rfl | hp
          · intro _; exact h3 x (by simp [List.lookup_cons])
          · exact h4 p hp
      · have hk' : (k == NameKind.free) = false := by simpa using hk
        simp only [hk', Bool.false_eq_true, if_false]
        obtain ⟨cl', h1, h2, h3, h4⟩ := ih acc (fun p hp => hl p (.tail _ hp)) ha
        refine ⟨cl', h1, h2, h3, fun p hp => ?_⟩
        rcases List.mem_cons.mp hp with rfl | hp
        · intro e; exact absurd e hk
        · exact h4 p hp
  unfold scFine at hs
  rw [Bool.and_eq_true, Bool.and_eq_true, Bool.and_eq_true, List.all_eq_true] at hs
  obtain ⟨⟨⟨_, hs⟩, _⟩, _⟩ := hs
  obtain ⟨cl', h1, h2, _, h4⟩ := key sc.names [] (fun p hp hfree => by
    have := hs p hp
    simp only [Bool.and_eq_true, Bool.or_eq_true, bne_iff_ne, ne_eq, beq_iff_eq] at this
    obtain ⟨⟨_, _⟩, h3⟩ := this
    rcases h3 with (h3 | h3) | h3
    · exact absurd hfree h3
    · exact fe.has _ (.inl h3)
    · exact fe.has _ (.inr h3)) (fun x c h => by cases h)
  refine ⟨cl', ?_, h2, fun x hx => ?_⟩
  · unfold closureFor
    exact congrArg (fun t : Sem (List (Str × Addr)) => t >>= fun cs => pure cs) h1
  · have hm : (x, NameKind.free) ∈ sc.names := by
      have : ∀ (l : List (Str × NameKind)), l.lookup x = some .free → (x, NameKind.free) ∈ l := by
        intro l
        induction l with
        | nil => intro h; cases h
        | cons p r ih =>
          intro h
          obtain ⟨y, k⟩ := p
          rw [List.lookup_cons] at h
          split at h
          · rename_i e; cases h; rw [eq_of_beq e]; exact .head _
          · exact .tail _ (ih h)
      exact this _ hx
    exact h4 _ hm rfl

theorem lookup_relabel {x : Str} : ∀ {names : List (Str × NameKind)},
    (names.map fun (n, k) => if (k == NameKind.free && env.scope.kind == .function && env.kindOf n == some .cell) then (n, NameKind.cell) else (n, k)).lookup x = names.lookup x ∨
    (names.lookup x = some .free ∧ (names.map fun (n, k) => if (k == NameKind.free && env.scope.kind == .function && env.kindOf n == some .cell) then (n, NameKind.cell) else (n, k)).lookup x = some .cell)
  | [] => .inl rfl
  | (y, k) :: r => by
    have ih := lookup_relabel (x := x) (names := r)
    simp only [List.map_cons]
    by_cases hc : (k == NameKind.free && env.scope.kind == .function && env.kindOf y == some .cell) = true
    · rw [if_pos hc]
      simp only [List.lookup_cons]
      cases hx : x == y with
      | true =>
        right
        rw [Bool.and_eq_true, Bool.and_eq_true] at hc
        have := eq_of_beq hc.1.1
        subst this
        exact ⟨rfl, rfl⟩
      | false => exact ih
    · rw [if_neg hc]
      simp only [List.lookup_cons]
      cases hx : x == y with
      | true => exact .inl rfl
      | false => exact ih

theorem comp_fe {sc : Scope} {cl' : List (Str × Addr)} (fe : FE G Sc env L cl) (hs : scFine Sc.kind sc = true) (hfree : ∀ x, sc.names.lookup x = some .free → (cl'.lookup x).isSome = true) :
    FE G (inner Sc sc) (compEnvC sc cl' L' env) L' cl' where
  kind := by
    unfold scFine at hs
    simp only [Bool.and_eq_true, beq_iff_eq] at hs
    exact hs.1.1.1
  glo := fe.glo
  bui := fe.bui
  loc := rfl
  cel := rfl
  sgl := fe.sgl
  knd := fun x => by
    rcases lookup_relabel (env := env) (x := x) (names := sc.names) with h | ⟨h1, h2⟩
    · exact .inl h
    · exact .inr ⟨h1, h2⟩
  has := fun x hx => by
    rcases hx with hx | hx
    · exfalso
      unfold scFine at hs
      simp only [Bool.and_eq_true, List.all_eq_true] at hs
      have hm : ∀ (l : List (Str × NameKind)), l.lookup x = some .cell → (x, NameKind.cell) ∈ l := by
        intro l
        induction l with
        | nil => intro h; cases h
        | cons p r ih =>
          intro h
          obtain ⟨y, k⟩ := p
          rw [List.lookup_cons] at h
          split at h
          · rename_i e; cases h; rw [eq_of_beq e]; exact .head _
          · exact .tail _ (ih h)
      have := hs.1.1.2 _ (hm _ hx)
      simp at this
    · exact hfree x hx

/-- the tests of a comprehension -/
def HF (Z : Cx) (G : Str → Option AV) (X : IX) (A : Around) (fuel : Nat) : Prop :=
  ∀ {Sc : Mini.Sc} {env : Env} {cl : List (Str × Addr)} {γ : List (Str × Nat)} {ρ : Loc} {ex : List (Addr × Obj)} {fs : List (Addr × Data)} {L : Addr} {m : Str → Option Value} {μ : List Addr} {σ : Store} {s : Shared} {E : Value → Shared → Prop} {xs : List Expr} {ces : CL} {Q : Bool → Shared → Prop},
    cL Sc fuel xs = some ces → St Z G Sc env cl γ ρ ex fs L m μ σ s → Post Z ex fs L m (fun _ (a b : Bool) => a = b) μ s Q E (evalIfs X γ ρ ces σ) →
    wpAny (model Z.prog Z.w) A (forIn xs true fun c r => if r = true then do let ok ← isTrue c env (eval c env); pure (ForInStep.yield ok) else pure (ForInStep.yield r)) Q E s

theorem ifs_false {xs : List Expr} {Q : Bool → Shared → Prop} (h : Q false s) :
    wpAny (model Z.prog Z.w) A (forIn xs false fun c r => if r = true then do let ok ← isTrue c env (eval c env); pure (ForInStep.yield ok) else pure (ForInStep.yield r)) Q E s := by
  induction xs with
  | nil => exact wpAny_pure h
  | cons x r ih =>
    rw [List.forIn_cons]
    simp only [Bool.false_eq_true, if_false]
    exact wpAny_bind (wpAny_pure ih)

theorem hf_step {k : Nat} (ht : HTr Z G X A k) (hf : HF Z G X A k) : HF Z G X A (k + 1) := by
  intro Sc env cl γ ρ ex fs L m μ σ s E xs ces Q c T h
  cases xs with
  | nil =>
    cases cL_nil c
    rw [evalIfs] at h
    exact wpAny_pure (h.ok0 T.sr rfl)
  | cons x r =>
    obtain ⟨hx, c1, d, h1, h2, rfl⟩ := cL_cons c
    rw [evalIfs] at h
    rw [List.forIn_cons]
    simp only [if_true]
    refine wpAny_bind (wpAny_bind (ht h1 T (h.truth (fun v σ' hn => by rw [hn]; rfl) fun v σ' μ' h' tk b hb p S h3 => wpAny_pure ?_)))
    rw [hb] at h3
    cases b with
    | true => exact hf h2 (T.next p S) h3
    | false =>
      have h3 : Post _ _ _ _ _ _ _ _ _ _ (RE.ok false σ') := h3
      exact ifs_false (h3.ok0 S rfl)

theorem codeAny_compLoop_gen {elt target iter : Expr} {ifs : List Expr} {scope : Scope} {pos : Pos} {it acc : Value} {env : Env} {R : Result → Shared → Prop} (J : Nat → Shared → Prop)
    (turn : ∀ n s, J n s → wpAny (model Z.prog Z.w) A (pyNext it) (fun r s₁ => match r with
      | none => R (.ok .next) s₁
      | some v => wpAny (model Z.prog Z.w) A (letOwnedTupleGo target it v) (fun _ s₁' => wpAny (model Z.prog Z.w) A (assign target env v) (fun _ s₂ =>
          wpAny (model Z.prog Z.w) A (forIn ifs true fun c r => if r = true then do let ok ← isTrue c env (eval c env); pure (ForInStep.yield ok) else pure (ForInStep.yield r)) (fun ok s₃ =>
            if ok = true then wpAny (model Z.prog Z.w) A (eval elt env) (fun x s₄ =>
              wpAny (model Z.prog Z.w) A (call (.builtin "list.append") [acc, x]) (fun _ s₅ => ∃ m, m < n ∧ J m s₅) (notedBy (model Z.prog Z.w) A env fun e s' => R (.error e) s') s₄) (notedBy (model Z.prog Z.w) A env fun e s' => R (.error e) s') s₃
            else ∃ m, m < n ∧ J m s₃) (notedBy (model Z.prog Z.w) A env fun e s' => R (.error e) s') s₂) (notedBy (model Z.prog Z.w) A env fun e s' => R (.error e) s') s₁')
          (notedBy (model Z.prog Z.w) A env fun e s' => R (.error e) s') s₁) (notedBy (model Z.prog Z.w) A env fun e s' => R (.error e) s') s)
    (n : Nat) (h : J n s) :
    codeAny (model Z.prog Z.w) A (.compLoop (.ListComp elt [⟨target, iter, ifs, 0⟩] scope pos) 0 it acc env) R s := by
  refine codeAny_loop rfl J (fun n s hI => ?_) n h
  show wpAny _ A ((compTurn (.ListComp elt [⟨target, iter, ifs, 0⟩] scope pos) 0 it acc env).onRaise (fun x => do noteFrame x env; theTreesLotGoes x)) _ _ s
  refine wpAny_noted ?_
  rw [compTurn_list]
  refine wpAny_bind (wpAny_standAt (wpAny_bind (wpAny_mono (turn n s hI) (fun r s₁ h₁ => ?_) fun _ _ h' => h')))
  cases r with
  | none => exact wpAny_pure h₁
  | some v =>
    refine wpAny_bind (wpAny_mono h₁ (fun _ s₁' h₁' => ?_) fun _ _ h' => h')
    refine wpAny_bind (wpAny_mono h₁' (fun _ s₂ h₂ => wpAny_bind (wpAny_mono h₂ (fun ok s₃ h₃ => ?_) fun _ _ h' => h')) fun _ _ h' => h')
    cases ok with
    | false => exact wpAny_pure ⟨rfl, h₃⟩
    | true =>
      exact wpAny_bind (wpAny_bind (wpAny_mono h₃ (fun x s₄ h₄ => wpAny_bind (wpAny_mono h₄ (fun _ s₅ h₅ => wpAny_pure (wpAny_pure ⟨rfl, h₅⟩)) fun _ _ h' => h')) fun _ _ h' => h'))

/-- an iterator is its own iterator -/
theorem iter_self (S : SR Z (own ++ ex) fs L m μ σ s.heap) (J : ItS μ it i I own) {Q : Value → Shared → Prop} (h : Q (.ref I) s) : wpAny (model Z.prog Z.w) A (pyIter (.ref I)) Q E s := by
  cases it with
  | lst k =>
    obtain ⟨a, o, ha, rfl, hc, hd⟩ := J
    obtain ⟨g, _⟩ := S.ex (I, o) (.head _)
    exact wpAny_pyIter_listiter ⟨o, g, hc, hd⟩ h
  | tpl k =>
    obtain ⟨a, o, ha, rfl, hc, hd⟩ := J
    obtain ⟨g, _⟩ := S.ex (I, o) (.head _)
    exact wpAny_pyIter_tupleiter ⟨o, g, hc, hd⟩ h
  | items xs =>
    obtain ⟨hi, a, st, hv, rfl⟩ := J
    obtain ⟨g, _⟩ := S.ex _ (.head _)
    exact wpAny_pyIter_rangeiter g h
  | zip k l =>
    obtain ⟨a, b, TI, TO, i1, i2, o1, o2, x, y, ha, hb, rfl, _⟩ := J
    exact wpAny_pyIter_zip (S.ex (I, zipObj TI TO) (by simp)).1 h
end
end Mini

end

section
set_option autoImplicit false
namespace Mini
open PySem PySem.W PySem.Calls PyProof PyProof.Rows PyProof.V PySem.Spec PySem.SeqAt

section
variable {Z : Cx} {G : Str → Option AV} {Sc : Mini.Sc} {env : Env} {cl : List (Str × Addr)} {γ : List (Str × Nat)} {ρ : Loc} {ex ex' own : List (Addr × Obj)} {fs : List (Addr × Data)} {L L' I : Addr} {m m' : Str → Option Value} {μ : List Addr} {σ : Store} {s : Shared} {A : Around} {E : Value → Shared → Prop} {X : IX} {n i : Nat} {it : It}

theorem SR.sub {h : Heap} (S : SR Z ex fs L m μ σ h) (k : ∀ p ∈ ex', p ∈ ex) : SR Z ex' fs L m μ σ h := { S with ex := fun p hp => S.ex p (k p hp) }
theorem GRel.sub {cl' : List (Str × Addr)} (h : GRel μ γ cl) (k : ∀ x c, cl'.lookup x = some c → cl.lookup x = some c) : GRel μ γ cl' := fun x n a e e' => h x n a e (k x a e')

def lobj (vs : Array Value) (c : Nat) : Obj := { cls := .type "list", data := .seq vs c }

/-- how a comprehension's loop ends -/
def CFin (Z : Cx) (ex : List (Addr × Obj)) (fs : List (Addr × Data)) (L' D : Addr) (μ₀ : List Addr) (s₀ : Shared) (P : Shared → Prop) : RE (List AV) → Prop
  | .ok vs σ' => ∀ μ' m' h' tk cvs c, Pre μ₀ μ' → SR Z ((D, lobj cvs c) :: ex) fs L' m' μ' σ' h' → VRs μ' vs cvs.toList → P { s₀ with heap := h', toks := tk }
  | _ => False

theorem comp_loop {k : Nat} (hh : A.handled = none) {t : Expr} (htz : ∀ n k, it = .zip n k → ∃ e c p, t = .Tuple e c p) (hW : X.W ≤ 50000) (he : HE Z G X A k) (ha : HA Z G X A k) (hf : HF Z G X A k) {elt iter : Expr} {ifs : List Expr} {sc : Scope} {pos : Pos} {ct : CT} {cifs : CL} {ce : CE}
    (c1 : cT Sc k t = some ct) (c2 : cL Sc k ifs = some cifs) (c3 : cE Sc k elt = some ce) (fe : FE G Sc env L' cl) {R : Result → Shared → Prop} {D : Addr} {μ₀ : List Addr} {s₀ : Shared} {own₀ : List (Addr × Obj)} {σ₀ : Store} {h₀ : Heap} {tk₀ : Nat}
    (gr : GRel μ₀ γ cl) (hD : ∀ p ∈ ex, p.1 ≠ D) (hDf : ∀ p ∈ fs, p.1 ≠ D) (S : SR Z (own₀ ++ (D, lobj #[] 0) :: ex) fs L' m μ₀ σ₀ h₀) (J : ItS μ₀ it 0 I own₀) (ap : Apart own₀ ((D, lobj #[] 0) :: ex) fs)
    (h : CFin Z ex fs L' D μ₀ s₀ (R (.ok .next)) (compLoop (nextIt it) (fun v σ => (assignT X γ [] ct v σ).bind fun ρ' σ => (evalIfs X γ ρ' cifs σ).bind fun b σ => if b then (evalE X γ ρ' ce σ).bind fun v σ => .ok (some v) σ else .ok none σ) X.W 0 [] σ₀)) :
    codeAny (model Z.prog Z.w) A (.compLoop (.ListComp elt [⟨t, iter, ifs, 0⟩] sc pos) 0 (.ref I) (.ref D) env) R { s₀ with heap := h₀, toks := tk₀ } := by
  refine codeAny_compLoop_gen (fun w s' => ∃ i acc σ μ own m' cvs c h tk, s' = { s₀ with heap := h, toks := tk } ∧ Pre μ₀ μ ∧ SR Z (own ++ (D, lobj cvs c) :: ex) fs L' m' μ σ h ∧ ItS μ it i I own ∧ own.map (·.1) = own₀.map (·.1) ∧ VRs μ acc cvs.toList ∧ acc.length + w ≤ X.W ∧
      CFin Z ex fs L' D μ₀ s₀ (R (.ok .next)) (compLoop (nextIt it) (fun v σ => (assignT X γ [] ct v σ).bind fun ρ' σ => (evalIfs X γ ρ' cifs σ).bind fun b σ => if b then (evalE X γ ρ' ce σ).bind fun v σ => .ok (some v) σ else .ok none σ) w i acc σ)) ?_ X.W
    ⟨0, [], σ₀, μ₀, own₀, m, #[], 0, h₀, tk₀, rfl, Pre.refl _, S, J, rfl, .nil, by simp, h⟩
  rintro w s' ⟨i, acc, σ, μ, own, m', cvs, c, h₁, tk, rfl, p, S, J, hk, ra, hw, h⟩
  cases w with
  | zero => exact h.elim
  | succ w =>
    have ap' : Apart own ((D, lobj cvs c) :: ex) fs := by
      intro q hq
      have : q.1 ∈ own₀.map (·.1) := by rw [← hk]; exact List.mem_map_of_mem hq
      obtain ⟨q', hq', e⟩ := List.mem_map.mp this
      obtain ⟨a1, a2⟩ := ap q' hq'
      rw [← e]
      refine ⟨fun r hr => ?_, a2⟩
      rcases List.mem_cons.mp hr with rfl | hr
      · exact a1 (D, lobj #[] 0) (.head _)
      · exact a1 r (.tail _ hr)
    rw [compLoop] at h
    refine next_snd (s := { s₀ with heap := h₁, toks := tk }) hh htz S J ap' ?_
    cases hn : nextIt it i σ with
    | bad => rw [hn] at h; exact h
    | stop =>
      rw [hn] at h
      intro h' tk' S'
      exact h μ m' h' tk' cvs c p S' ra
    | item v σ1 =>
      rw [hn] at h
      intro cv own1 μ1 h1' t1 p1 S1 J1 hk1 rv
      have gr1 : GRel μ1 γ cl := (gr.mono p).mono p1
      have T1 : St Z G Sc env cl γ [] (own1 ++ (D, lobj cvs c) :: ex) fs L' m' μ1 σ1 { s₀ with heap := h1', toks := t1 } := ⟨fe, S1, fun x v e => (by cases e), gr1⟩
      refine ha c1 T1 rv ?_
      simp only [bind_assoc] at h
      cases qa : assignT X γ [] ct v σ1 with
      | bad => rw [qa] at h; exact h
      | exc e σ' => rw [qa] at h; exact h.elim
      | ok ρ2 σ2 =>
        rw [qa] at h
        intro μ2 m2 h2' t2 p2 S2 fr2
        have T2 : St Z G Sc env cl γ ρ2 (own1 ++ (D, lobj cvs c) :: ex) fs L' m2 μ2 σ2 { s₀ with heap := h2', toks := t2 } := ⟨fe, S2, fr2, gr1.mono p2⟩
        refine hf c2 T2 ?_
        have h : CFin Z ex fs L' D μ₀ s₀ (R (.ok .next)) ((evalIfs X γ ρ2 cifs σ2).bind fun b σ => _) := h
        cases qb : evalIfs X γ ρ2 cifs σ2 with
        | bad => rw [qb] at h; exact h
        | exc e σ' => rw [qb] at h; exact h.elim
        | ok b σ3 =>
          rw [qb] at h
          intro μ3 b' h3' t3 p3 S3 eb
          cases eb
          cases b with
          | false =>
            simp only [Bool.false_eq_true, if_false]
            exact ⟨w, Nat.lt_succ_self _, i + 1, acc, σ3, μ3, own1, m2, cvs, c, h3', t3, rfl, ((p.trans p1).trans p2).trans p3, S3, ItS.mono p3 (ItS.mono p2 J1), hk1.trans hk, VRs.mono ((p1.trans p2).trans p3) ra, by omega, h⟩
          | true =>
            simp only [if_true]
            have T3 := T2.next (tk := t3) p3 S3
            refine he c3 T3 ?_
            have h : CFin Z ex fs L' D μ₀ s₀ (R (.ok .next)) (((evalE X γ ρ2 ce σ3).bind fun v σ => .ok (some v) σ).bind fun r σ => _) := h
            cases qc : evalE X γ ρ2 ce σ3 with
            | bad => rw [qc] at h; exact h
            | exc e σ' => rw [qc] at h; exact h.elim
            | ok u σ4 =>
              rw [qc] at h
              intro μ4 cu h4' t4 p4 S4 ru
              have gD := (S4.ex (D, lobj cvs c) (List.mem_append_right _ (.head _))).1
              have hlen := ra.length
              refine append_at (its := cvs) (n := c) gD (fun h5 hs5 hg5 => ?_) (by have := lim_line; rw [lim_small] at this; simp at hlen; omega)
              have hx : ∀ q ∈ own1 ++ ex, q.1 ≠ D := by
                intro q hq
                rcases List.mem_append.mp hq with hq | hq
                · have : q.1 ∈ own₀.map (·.1) := by rw [← hk, ← hk1]; exact List.mem_map_of_mem hq
                  obtain ⟨q', hq', e⟩ := List.mem_map.mp this
                  rw [← e]
                  exact fun e' => (ap q' hq').1 _ (.head _) e'.symm
                · exact hD q hq
              have S5 := (S4.sub (ex' := (D, lobj cvs c) :: (own1 ++ ex)) (fun q hq => by
                rcases List.mem_cons.mp hq with rfl | hq
                · exact List.mem_append_right _ (.head _)
                · rcases List.mem_append.mp hq with hq | hq
                  · exact List.mem_append_left _ hq
                  · exact List.mem_append_right _ (.tail _ hq))).turnX hx hDf hs5 hg5
              have S6 := S5.sub (ex' := own1 ++ (D, lobj (cvs.push cu) (c + 1)) :: ex) (fun q hq => by
                rcases List.mem_append.mp hq with hq | hq
                · exact .tail _ (List.mem_append_left _ hq)
                · rcases List.mem_cons.mp hq with rfl | hq
                  · exact .head _
                  · exact .tail _ (List.mem_append_right _ hq))
              refine ⟨w, Nat.lt_succ_self _, i + 1, acc ++ [u], σ4, μ4, own1, m2, cvs.push cu, c + 1, h5, t4, rfl, (((p.trans p1).trans p2).trans p3).trans p4, S6, ItS.mono p4 (ItS.mono p3 (ItS.mono p2 J1)), hk1.trans hk, ?_, by simp; omega, h⟩
              rw [Array.toList_push]
              exact All2.append (VRs.mono (((p1.trans p2).trans p3).trans p4) ra) (.cons ru .nil)
end
end Mini

end

section
set_option autoImplicit false
namespace Mini
open PySem PySem.W PySem.Calls PyProof PyProof.Rows PyProof.V PySem.Spec PySem.SeqAt

section
variable {Z : Cx} {G : Str → Option AV} {Sc : Mini.Sc} {env : Env} {cl : List (Str × Addr)} {γ : List (Str × Nat)} {ρ : Loc} {ex ex' own : List (Addr × Obj)} {fs : List (Addr × Data)} {L L' I : Addr} {m m' : Str → Option Value} {μ : List Addr} {σ : Store} {s : Shared} {A : Around} {E : Value → Shared → Prop} {X : IX} {n i : Nat} {it : It}

theorem cI_noSet {k : Nat} {x : Expr} {ci : CI} (h : cI Sc k x = some ci) (v : Value) : foldedSetIterable x env v = pure v := by
  cases x <;> try rfl
  exfalso
  cases k with
  | zero => unfold cI at h; cases h
  | succ k =>
    unfold cI at h
    obtain ⟨ce, h1, _⟩ := Option.map_eq_some_iff.mp h
    cases k with
    | zero => unfold cE at h1; cases h1
    | succ k => unfold cE at h1; cases h1

/-- what is asked behind a comprehension -/
def CEnd (Z : Cx) (A : Around) (ex : List (Addr × Obj)) (fs : List (Addr × Data)) (L : Addr) (m : Str → Option Value) (μ : List Addr) (s : Shared) (use : Option (Value → Sem Unit)) (Q : Value → Shared → Prop) (E : Value → Shared → Prop) : RE AV → Prop
  | .ok v σ' => ∀ μ' D h' tk L' o m₁, Pre μ μ' → SR Z ((L', o) :: ex) fs L m μ' σ' h' → (∀ p ∈ ex, p.1 ≠ L') → (∀ p ∈ fs, p.1 ≠ L') → h'.Ns L' m₁ → VR μ' v (.ref D) →
      (match use with
        | none => ∀ h'', Heap.SameBut L' h' h'' → Q (.ref D) { s with heap := h'', toks := tk }
        | some u => wpAny (model Z.prog Z.w) A (u (.ref D)) (fun _ s'' => ∃ m, s''.heap.Ns L' m ∧ ∀ h₂, Heap.SameBut L' s''.heap h₂ → Q .none { s'' with heap := h₂ }) E { s with heap := h', toks := tk })
  | _ => False

theorem comp_snd {k : Nat} (hh : A.handled = none) (hW : X.W ≤ 50000) (hi : HI Z G X A k) (he : HE Z G X A k) (ha : HA Z G X A k) (hf : HF Z G X A k) {elt t iter : Expr} {ifs : List Expr} {sc : Scope} {pos pos' : Pos} {ct : CT} {ci : CI} {cifs : CL} {ce : CE} {use : Option (Value → Sem Unit)} {Q : Value → Shared → Prop}
    (hs : scFine Sc.kind sc = true) (c0 : cI Sc k iter = some ci) (hzf : zipFine ci t = true) (c1 : cT (inner Sc sc) k t = some ct) (c2 : cL (inner Sc sc) k ifs = some cifs) (c3 : cE (inner Sc sc) k elt = some ce) (T : St Z G Sc env cl γ ρ ex fs L m μ σ s)
    (h : CEnd Z A ex fs L m μ s use Q E (evalE X γ ρ (.comp ce ct ci cifs) σ)) :
    wpAny (model Z.prog Z.w) A (comprehension (.ListComp elt [⟨t, iter, ifs, 0⟩] sc pos) sc env pos' (newList []) false (eval iter env) use) Q E s := by
  obtain ⟨cl', hcl, hsub, hfree⟩ := closure_snd T.fe hs
  have hs' := hs
  unfold scFine at hs'
  simp only [Bool.and_eq_true, List.all_eq_true, Bool.or_eq_true, bne_iff_ne, ne_eq, beq_iff_eq] at hs'
  refine wpAny_comprehension_free (cl := cl') rfl (cI_noSet c0) hcl hs'.1.1.1 (fun x hx _ => by
    have := (hs'.1.1.2 x hx).1.2; rename_i e; rw [e] at this; exact this) ?_
  rw [evalE] at h
  refine hi c0 T ?_
  cases q : evalI X γ ρ ci σ with
  | bad => rw [q] at h; exact h
  | exc e σ' => rw [q] at h; exact h.elim
  | ok it σ0 =>
    rw [q] at h
    have h : CEnd Z A ex fs L m μ s use Q E ((compLoop (nextIt it) (fun v σ => (assignT X γ [] ct v σ).bind fun ρ' σ => (evalIfs X γ ρ' cifs σ).bind fun b σ => if b then (evalE X γ ρ' ce σ).bind fun v σ => .ok (some v) σ else .ok none σ) X.W 0 [] σ0).bind fun vs σ => allocL vs σ) := h
    intro μ0 I own h0 tk0 p0 S0 J0 ap0
    refine wpAny_newList ?_ (Nat.zero_le _)
    have SD := S0.aside (o := lobj #[] 0) rfl
    obtain ⟨fD1, fD2, fD3, fD4, fD5⟩ := SR.fresh S0
    have hgt := SR.gt1 S0
    refine wpAny_newFunctionEnv (fun x hx => (hs'.1.1.2 x hx).1.1) (fun x hx => by cases hx) (fun h1 hn1 hs1 => ?_) hs'.1.1.1
    obtain ⟨d, S1, oL, gL, dL⟩ := SD.enter hn1 hs1
    dsimp only
    obtain ⟨fL1, fL2, fL3, fL4, fL5⟩ := SR.fresh SD
    have S1' := S1.sub (ex' := own ++ (h0.objs.size, lobj #[] 0) :: ex) (fun p hp => by
      rcases List.mem_append.mp hp with hp | hp
      · exact .tail _ (List.mem_append_left _ hp)
      · rcases List.mem_cons.mp hp with rfl | hp
        · exact .head _
        · exact .tail _ (List.mem_append_right _ hp))
    have hexL : ∀ p ∈ ex, p.1 ≠ L := fun p hp => (T.sr.ex p hp).2.1
    have hfsL : ∀ p ∈ fs, p.1 ≠ L := fun p hp => (T.sr.fs p hp).2.1
    have ap1 : Apart own ((h0.objs.size, lobj #[] 0) :: ex) ((L, d) :: fs) := by
      intro p hp
      obtain ⟨a1, a2⟩ := ap0 p hp
      refine ⟨fun q hq => ?_, fun q hq => ?_⟩
      · rcases List.mem_cons.mp hq with rfl | hq
        · exact fun e => fD4 p (List.mem_append_left _ hp) e.symm
        · exact a1 q hq
      · rcases List.mem_cons.mp hq with rfl | hq
        · exact fun e => (S0.ex p (List.mem_append_left _ hp)).2.1 e.symm
        · exact a2 q hq
    have fe' := comp_fe (L' := (h0.push (lobj #[] 0)).objs.size) T.fe hs hfree
    have loop := fun tk' => comp_loop (tk₀ := tk') (m := fun x => List.lookup x ([] : List (Str × Value)).reverse) (R := compPost (model Z.prog Z.w) A E use Q (.ref h0.objs.size) (h0.push (lobj #[] 0)).objs.size) (sc := sc) (pos := pos) (iter := iter) (s₀ := s) hh (zip_target hzf q) hW he ha hf c1 c2 c3 fe' (GRel.sub (T.gr.mono p0) hsub)
      (fun p hp => fD4 p (List.mem_append_right _ hp)) (fun p hp => by
        rcases List.mem_cons.mp hp with rfl | hp
        · exact fun e => fD2 e.symm
        · exact fD5 p hp) S1' J0 ap1 (by
      cases qr : compLoop (nextIt it) (fun v σ => (assignT X γ [] ct v σ).bind fun ρ' σ => (evalIfs X γ ρ' cifs σ).bind fun b σ => if b then (evalE X γ ρ' ce σ).bind fun v σ => .ok (some v) σ else .ok none σ) X.W 0 [] σ0 with
      | bad => rw [qr] at h; exact h
      | exc e σ' => rw [qr] at h; exact h
      | ok vs σ2 =>
        rw [qr] at h
        intro μ2 m2 h2 tk2 cvs c p2 S2 ra
        have h : CEnd Z A ex fs L m μ s use Q E (allocL vs σ2) := h
        unfold allocL at h
        split at h
        · rename_i hlen
          obtain ⟨o', go', S3⟩ := SR.leave (h₀ := h0.push (lobj #[] 0)) S2 (SD.fr.ns) gL dL SD.fr.above (fun p hp => by
            rcases List.mem_cons.mp hp with rfl | hp
            · exact fun e => fD2 e
            · exact hexL p hp) hfsL
          obtain ⟨gD, eD1, eD2, eD3⟩ := S3.ex (h0.objs.size, lobj cvs c) (.tail _ (.head _))
          have hL'D : (h0.push (lobj #[] 0)).objs.size ≠ h0.objs.size := by rw [Heap.size_push]; exact Nat.succ_ne_self _
          have S4 := (S3.sub (ex' := ((h0.push (lobj #[] 0)).objs.size, o') :: ex) (fun p hp => by
            rcases List.mem_cons.mp hp with rfl | hp
            · exact .head _
            · exact .tail _ (.tail _ hp))).add (o := .list vs) gD eD3 eD1 eD2 hgt (fun p hp => by
              rcases List.mem_cons.mp hp with rfl | hp
              · exact hL'D
              · exact fD4 p (List.mem_append_right _ hp)) fD5 ⟨Nat.le_of_lt hlen, cvs, c, rfl, VRs.mono (Pre.add _ _) ra⟩
          have fin := h (μ2 ++ [h0.objs.size]) h0.objs.size h2 tk2 _ o' _ ((p0.trans p2).trans (Pre.add _ _)) S4 (fun p hp => fL4 p (.tail _ (List.mem_append_right _ hp))) fL5 S2.fr.ns (VR.last S3 _)
          cases use with
          | none => exact ⟨_, S2.fr.ns, fin⟩
          | some u => exact fin
        · exact h.elim)
    exact codeAny_compStart_list (loop _) (iter_self (s := { s with heap := h1, toks := _ }) S1' J0 (loop _))
end
end Mini

end

section
set_option autoImplicit false
namespace Mini
open PySem PySem.W PySem.Calls PyProof PyProof.Rows PyProof.V PySem.Spec PySem.SeqAt

section
variable {Z : Cx} {G : Str → Option AV} {Sc : Mini.Sc} {env : Env} {cl : List (Str × Addr)} {γ : List (Str × Nat)} {ρ : Loc} {ex ex' own : List (Addr × Obj)} {fs : List (Addr × Data)} {L L' I : Addr} {m m' : Str → Option Value} {μ : List Addr} {σ : Store} {s : Shared} {A : Around} {E : Value → Shared → Prop} {X : IX} {n i : Nat} {it : It}

theorem snd_comp {k : Nat} (hh : A.handled = none) (hW : X.W ≤ 50000) (hi : HI Z G X A k) (he : HE Z G X A k) (ha : HA Z G X A k) (hf : HF Z G X A k) {elt t iter : Expr} {ifs : List Expr} {sc : Scope} {pos : Pos} {ct : CT} {ci : CI} {cifs : CL} {ce : CE} {Q : Value → Shared → Prop}
    (hs : scFine Sc.kind sc = true) (c0 : cI Sc k iter = some ci) (hzf : zipFine ci t = true) (c1 : cT (inner Sc sc) k t = some ct) (c2 : cL (inner Sc sc) k ifs = some cifs) (c3 : cE (inner Sc sc) k elt = some ce) (T : St Z G Sc env cl γ ρ ex fs L m μ σ s)
    (h : Post Z ex fs L m VR μ s Q E (evalE X γ ρ (.comp ce ct ci cifs) σ)) : wpAny (model Z.prog Z.w) A (eval (.ListComp elt [⟨t, iter, ifs, 0⟩] sc pos) env) Q E s := by
  rw [eval_ListComp]
  refine comp_snd (use := none) hh hW hi he ha hf hs c0 hzf c1 c2 c3 T ?_
  cases q : evalE X γ ρ (.comp ce ct ci cifs) σ with
  | bad => rw [q] at h; exact h
  | exc e σ' => rw [q] at h; exact ExcPost.no h
  | ok v σ' =>
    rw [q] at h
    exact fun μ' D h' tk L'' o m₁ p S hx hf _ r h'' hs => h μ' (.ref D) h'' tk p (S.gone hx hf hs.extBut) r

theorem he_step {k : Nat} (O : Ok Z G) (XO : XOk Z X n) (hr : RoomB n A) (hW : X.W ≤ 50000) (hej : ∀ j, j ≤ k → HE Z G X A j) (hl : HL Z G X A k) (hk : HK Z G X A k) (ho : HO Z G X A k) (hc : HC Z G X A k) (hb : HB Z G X A k) (hi : HI Z G X A k) (ha : HA Z G X A k) (hf : HF Z G X A k) : HE Z G X A (k + 1) := by
  intro Sc env cl γ ρ ex fs L m μ σ s E x ce Q c T h
  have he : HE Z G X A k := by apply hej; exact Nat.le_refl k
  cases x with
  | Constant cst kd pos =>
    unfold cE at c
    obtain ⟨v, h1, rfl⟩ := Option.map_eq_some_iff.mp c
    rw [evalE] at h
    exact snd_const h1 T h
  | Name id pos =>
    unfold cE at c
    exact name_snd O T.fe T.sr T.fr T.gr c h
  | BoolOp op es pos =>
    unfold cE at c
    obtain ⟨ces, h1, rfl⟩ := Option.map_eq_some_iff.mp c
    rw [evalE] at h
    exact (hb h1 T).1 h
  | UnaryOp op a pos =>
    cases op with
    | Not =>
      unfold cE at c
      obtain ⟨ca, h1, rfl⟩ := Option.map_eq_some_iff.mp c
      exact snd_not he h1 T h
    | USub =>
      unfold cE at c
      obtain ⟨ca, h1, rfl⟩ := Option.map_eq_some_iff.mp c
      exact snd_neg he h1 T h
    | _ => unfold cE at c; cases c
  | BinOp a op b pos =>
    unfold cE at c
    obtain ⟨ca, h1, c⟩ := Option.bind_eq_some_iff.mp c
    obtain ⟨cb, h2, rfl⟩ := Option.map_eq_some_iff.mp c
    exact snd_binop he h1 h2 T h
  | Compare a ops es pos =>
    unfold cE at c
    have c : (if (ops.length != es.length) = true then none else (cE Sc k a).bind fun a => Option.map (a.cmp ops) (cL Sc k es)) = some ce := c
    split at c
    · cases c
    · rename_i hlen
      obtain ⟨ca, h1, c⟩ := Option.bind_eq_some_iff.mp c
      obtain ⟨ces, h2, rfl⟩ := Option.map_eq_some_iff.mp c
      exact snd_compare he hc h1 h2 (by simpa using hlen) T h
  | Attribute a x pos =>
    unfold cE at c
    have c : (if plainBase a = true then (cE Sc k a).map fun a => CE.attr a x else none) = some ce := c
    split at c
    · rename_i hp
      obtain ⟨ca, h1, rfl⟩ := Option.map_eq_some_iff.mp c
      exact snd_attr O XO hr he hp h1 T h
    · cases c
  | Subscript a i pos =>
    unfold cE at c
    cases i with
    | Slice lo hi' st sp =>
      obtain ⟨ca, h1, c⟩ := Option.bind_eq_some_iff.mp c
      obtain ⟨c2, h2, c⟩ := Option.bind_eq_some_iff.mp c
      obtain ⟨c3, h3, c⟩ := Option.bind_eq_some_iff.mp c
      obtain ⟨c4, h4, rfl⟩ := Option.map_eq_some_iff.mp c
      exact snd_slice he ho h1 h2 h3 h4 T h
    | _ =>
      obtain ⟨ca, h1, c⟩ := Option.bind_eq_some_iff.mp c
      obtain ⟨ci, h2, rfl⟩ := Option.map_eq_some_iff.mp c
      exact snd_sub he h1 h2 (by intro lo hi st p e; cases e) T h
  | List es pos =>
    unfold cE at c
    obtain ⟨ces, h1, rfl⟩ := Option.map_eq_some_iff.mp c
    exact snd_list hl h1 T h
  | Tuple es kd pos =>
    unfold cE at c
    obtain ⟨ces, h1, rfl⟩ := Option.map_eq_some_iff.mp c
    exact snd_tuple hl h1 T h
  | Dict ks vs pos =>
    unfold cE at c
    obtain ⟨cks, h1, c⟩ := Option.bind_eq_some_iff.mp c
    obtain ⟨cvs, h2, rfl⟩ := Option.map_eq_some_iff.mp c
    cases k with
    | zero => unfold cL at h2; cases h2
    | succ k =>
    rw [evalE.eq_def] at h
    dsimp only at h
    cases ks with
    | nil =>
      have : cks = .nil := by unfold cKs at h1; cases h1; rfl
      subst this
      cases vs with
      | nil =>
        cases cL_nil h2
        exact snd_dict0 T h
      | cons v vs =>
        obtain ⟨_, c1, d, _, _, rfl⟩ := cL_cons h2
        exact h.elim
    | cons ke ks =>
      obtain ⟨x, c1, d1, rfl, h3, h4, rfl⟩ := cKs_one h1
      cases vs with
      | nil =>
        cases cL_nil h2
        cases d1 <;> exact h.elim
      | cons v vs =>
        obtain ⟨_, c2, d2, h5, h6, rfl⟩ := cL_cons h2
        cases k with
        | zero => unfold cL at h6; cases h6
        | succ k =>
        cases ks with
        | nil =>
          have : d1 = .nil := by unfold cKs at h4; cases h4; rfl
          subst this
          cases vs with
          | nil =>
            cases cL_nil h6
            have he1 : HE Z G X A (k + 1) := by apply hej; exact Nat.le_succ (k + 1)
            exact snd_dict1 (k := k + 1) he1 h3 h5 T (by rw [evalE]; exact h)
          | cons v' vs' =>
            obtain ⟨_, c3, d3, _, _, rfl⟩ := cL_cons h6
            exact h.elim
        | cons k2 ks2 =>
          obtain ⟨_, c3, d3, _, _, _, rfl⟩ := cKs_one h4
          exact h.elim
  | Call f es kws pos =>
    cases f with
    | Attribute o x ap =>
      unfold cE at c
      have c : (if (!(plainBase o && ap.endLine == pos.line && decide (es.length + kws.length < 28))) = true then none else (cE Sc k o).bind fun o => (cL Sc k es).bind fun es => (cKw Sc k kws).map fun kv => CE.meth o x es kv.1 kv.2) = some ce := c
      split at c
      · cases c
      · rename_i hp
        obtain ⟨co, h1, c⟩ := Option.bind_eq_some_iff.mp c
        obtain ⟨ces, h2, c⟩ := Option.bind_eq_some_iff.mp c
        obtain ⟨q, h3, rfl⟩ := Option.map_eq_some_iff.mp c
        exact snd_meth O XO hr he hl hk (by simpa using hp) h1 h2 h3 T h
    | _ =>
      unfold cE at c
      obtain ⟨cf, h1, c⟩ := Option.bind_eq_some_iff.mp c
      obtain ⟨ces, h2, c⟩ := Option.bind_eq_some_iff.mp c
      obtain ⟨q, h3, rfl⟩ := Option.map_eq_some_iff.mp c
      exact snd_call O XO hr he hl hk h1 h2 h3 (by intro o x p e; cases e) T h
  | ListComp elt gens sc pos =>
    unfold cE at c
    rcases gens with _ | ⟨⟨t, it, ifs, as⟩, _ | ⟨_, _⟩⟩
    · cases c
    · replace c : (if (as != 0 || !scFine Sc.kind sc) = true then none else (cI Sc k it).bind fun it => if (!zipFine it t) = true then none else (cT (inner Sc sc) k t).bind fun t => (cL (inner Sc sc) k ifs).bind fun ifs => (cE (inner Sc sc) k elt).map fun e => CE.comp e t it ifs) = some ce := c
      split at c
      · cases c
      · rename_i hs
        rw [Bool.or_eq_true, not_or] at hs
        have h0 : as = 0 := by simpa using hs.1
        subst h0
        obtain ⟨ci, h1, c⟩ := Option.bind_eq_some_iff.mp c
        split at c
        · cases c
        · rename_i hzf
          obtain ⟨ct, h2, c⟩ := Option.bind_eq_some_iff.mp c
          obtain ⟨cifs, h3, c⟩ := Option.bind_eq_some_iff.mp c
          obtain ⟨ce', h4, rfl⟩ := Option.map_eq_some_iff.mp c
          exact snd_comp hr.h hW hi he ha hf (by simpa using hs.2) h1 (by simpa using hzf) h2 h3 h4 T h
    · cases c
  | _ => unfold cE at c; cases c
end
end Mini

end

section
set_option autoImplicit false
namespace Mini
open PySem PySem.W PySem.Calls PyProof PyProof.Rows PyProof.V PySem.Spec PySem.SeqAt

section
variable {Z : Cx} {G : Str → Option AV} {Sc : Mini.Sc} {env : Env} {cl : List (Str × Addr)} {γ : List (Str × Nat)} {ρ : Loc} {ex ex' own : List (Addr × Obj)} {fs : List (Addr × Data)} {L L' I : Addr} {m m' : Str → Option Value} {μ : List Addr} {σ : Store} {s : Shared} {A : Around} {E : Value → Shared → Prop} {X : IX} {n i : Nat} {it : It}

theorem inplace_snd {op : Operator} {v w : AV} {cv cw : Value} {Q : Value → Shared → Prop} (rv : VR μ v cv) (rw' : VR μ w cw) (hp : plainV op v w = true) (S : SR Z ex fs L m μ σ s.heap)
    (h : Post Z ex fs L m VR μ s Q E (binM op v w σ)) : wpAny (model Z.prog Z.w) A (inplaceOp op cv cw) Q E s := by
  unfold plainV at hp
  split at hp
  · obtain ⟨t, rfl⟩ := rv; obtain ⟨u, rfl⟩ := rw'
    rw [Bool.or_eq_true] at hp
    rcases hp with hp | hp
    · obtain rfl := eq_of_beq hp
      exact iadd_int (Post.ok' h S ⟨_, rfl⟩)
    · obtain rfl := eq_of_beq hp
      exact isub_int (Post.ok' h S ⟨_, rfl⟩)
  · obtain ⟨t, rfl⟩ := rv; obtain ⟨u, rfl⟩ := rw'
    obtain rfl := eq_of_beq hp
    unfold binM at h
    dsimp only at h
    split at h
    · exact iadd_str (fun t' tk => h.ok' S ⟨_, rfl⟩) (by have := lim_line; omega)
    · exact h.elim
  · cases hp

theorem st_augL {k : Nat} (he : HE Z G X A k) {x : Str} {op : Operator} {e : Expr} {np pos : Pos} {ce : CE} {Q : Flow → Shared → Prop} (hk : Sc.kind x = some .local) (c : cE Sc k e = some ce) (T : St Z G Sc env cl γ ρ ex fs L m μ σ s)
    (h : PostS Z ex fs L μ s Q E (augM X γ op (.loc x) ce ρ σ)) : wpAny (model Z.prog Z.w) A (PySem.exec (.AugAssign (.Name x np) op e pos) env) Q E s := by
  unfold augM at h
  dsimp only at h
  obtain ⟨old, ho, h⟩ := h.lift
  obtain ⟨co, hm, ro⟩ := T.fr x old ho
  refine wpAny_AugAssign_Name (wpAny_loadName_local T.fe.kind (kind_ne T.fe hk (by decide)) (T.fe.loc ▸ T.sr.fr.ns) hm (he c T (h.bind fun v σ' μ' cv h' tk p S rv h3 => ?_)))
  split at h3
  · rename_i hp
    refine inplace_snd (s := { s with heap := h', toks := tk }) (ro.mono p) rv hp S (h3.bind fun w σ2 μ2 cw h2 t2 p2 S2 rw2 h4 => ?_)
    exact store_local T.fe S2 (T.fr.mono (p.trans p2)) hk rw2 fun m' h'' tk'' S' fr' => h4 μ2 m' h'' tk'' (Pre.refl _) S' fr'
  · exact h3.elim

theorem st_augS {k k1 : Nat} (he : HE Z G X A k) (he1 : HE Z G X A k1) {o i e : Expr} {op : Operator} {tp pos : Pos} {co ci ce : CE} {Q : Flow → Shared → Prop} (c1 : cE Sc k1 o = some co) (c2 : cE Sc k1 i = some ci) (c : cE Sc k e = some ce) (hi : ∀ lo hi st p, i ≠ .Slice lo hi st p) (T : St Z G Sc env cl γ ρ ex fs L m μ σ s)
    (h : PostS Z ex fs L μ s Q E (augM X γ op (.sub co ci) ce ρ σ)) : wpAny (model Z.prog Z.w) A (PySem.exec (.AugAssign (.Subscript o i tp) op e pos) env) Q E s := by
  unfold augM at h
  dsimp only at h
  refine wpAny_AugAssign_SubscriptAny (he1 c1 T (h.bind fun v σ1 μ1 cv h1 t1 p1 S1 rv h => ?_)) (by intro ov iv new; cases i <;> first | rfl | exact absurd rfl (hi _ _ _ _))
  refine he1 c2 (T.next p1 S1) (h.bind fun w σ2 μ2 cw h2 t2 p2 S2 rw2 h => ?_)
  refine getItem_snd (s := { s with heap := h2, toks := t2 }) S2 (rv.mono p2) rw2 (h.bind fun old σ3 μ3 cold h3 t3 p3 S3 ro h => ?_)
  refine he c (((T.next p1 S1).next p2 S2).next p3 S3) (h.bind fun u σ4 μ4 cu h4 t4 p4 S4 ru h => ?_)
  split at h
  · rename_i hp
    refine inplace_snd (s := { s with heap := h4, toks := t4 }) (ro.mono p4) ru hp S4 (h.bind fun new σ5 μ5 cn h5 t5 p5 S5 rn h => ?_)
    refine setItem_snd (s := { s with heap := h5, toks := t5 }) S5 (rv.mono (((p2.trans p3).trans p4).trans p5)) (rw2.mono ((p3.trans p4).trans p5)) rn (h.bind fun _ σ6 μ6 _ h6 t6 p6 S6 _ h => ?_)
    exact h μ6 m h6 t6 (Pre.refl _) S6 (T.fr.mono (((((p1.trans p2).trans p3).trans p4).trans p5).trans p6))
  · exact h.elim

theorem st_assert {k : Nat} (ht : HTr Z G X A k) {x : Expr} {pos : Pos} {ce : CE} {Q : Flow → Shared → Prop} (c : cE Sc k x = some ce) (T : St Z G Sc env cl γ ρ ex fs L m μ σ s) (h : PostS Z ex fs L μ s Q E (Mini.exec X γ (.asrt ce) ρ σ)) :
    wpAny (model Z.prog Z.w) A (PySem.exec (.Assert x none pos) env) Q E s := by
  rw [Mini.exec] at h
  refine wpAny_Assert_holds (ht c T (h.bind fun v σ' μ' cv h' tk p S rv h3 => ?_))
  cases rv
  cases v with
  | true => exact ⟨rfl, h3.here0 (T.next p S)⟩
  | false => exact h3.elim

theorem st_tryE {k : Nat} (hb : HBl Z G X A k) {b hd : List Stmt} {x : Expr} {p1 pos : Pos} {cb : CB} {v : AV} {ch : CB} {Q : Flow → Shared → Prop} (c : cB Sc k b = some cb) (T : St Z G Sc env cl γ ρ ex fs L m μ σ s) (h : PostS Z ex fs L μ s Q E (Mini.exec X γ (.tryE cb v ch) ρ σ)) :
    wpAny (model Z.prog Z.w) A (PySem.exec (.Try b [.ExceptHandler (some x) none hd p1] [] [] pos) env) Q E s := by
  rw [Mini.exec] at h
  refine wpAny_Try_except (hb c T ?_)
  cases q : Mini.execs X γ cb ρ σ with
  | nxt ρ' σ' => rw [q] at h; exact fun μ' m' h' tk p S fr => wpAny_execs_nil (h μ' m' h' tk p S fr)
  | brk ρ' σ' => rw [q] at h; exact h
  | cont ρ' σ' => rw [q] at h; exact h
  | ret v ρ' σ' => rw [q] at h; exact h
  | exc e ρ' σ' => rw [q] at h; exact h.elim
  | bad => rw [q] at h; exact h

theorem st_tryF {k : Nat} (hb : HBl Z G X A k) {b : List Stmt} {f : Stmt} {fs' : List Stmt} {pos : Pos} {cb cf : CB} {Q : Flow → Shared → Prop} (c : cB Sc k b = some cb) (c2 : cB Sc k (f :: fs') = some cf) (T : St Z G Sc env cl γ ρ ex fs L m μ σ s)
    (h : PostS Z ex fs L μ s Q E (Mini.exec X γ (.tryF cb cf) ρ σ)) : wpAny (model Z.prog Z.w) A (PySem.exec (.Try b [] [] (f :: fs') pos) env) Q E s := by
  rw [Mini.exec] at h
  refine wpAny_Try_finally (hb c T ?_)
  cases q : Mini.execs X γ cb ρ σ with
  | nxt ρ' σ' =>
    rw [q] at h
    simp only [finish] at h
    intro μ' m' h' tk p S fr
    refine wpAny_execs_nil (hb c2 ⟨T.fe, S, fr, T.gr.mono p⟩ ?_)
    have h := PostS.up (h' := h') (tk := tk) p h
    cases q2 : Mini.execs X γ cf ρ' σ' with
    | exc e _ _ => rw [q2] at h; exact ExcPostS.no h
    | bad => rw [q2] at h; exact h
    | _ => rw [q2] at h; exact h
  | brk ρ' σ' =>
    rw [q] at h
    simp only [finish] at h
    intro μ' m' h' tk p S fr
    refine hb c2 ⟨T.fe, S, fr, T.gr.mono p⟩ ?_
    have h := PostS.up (h' := h') (tk := tk) p h
    cases q2 : Mini.execs X γ cf ρ' σ' with
    | nxt _ _ => rw [q2] at h; exact h
    | _ => rw [q2] at h; exact h.elim
  | cont ρ' σ' =>
    rw [q] at h
    simp only [finish] at h
    intro μ' m' h' tk p S fr
    refine hb c2 ⟨T.fe, S, fr, T.gr.mono p⟩ ?_
    have h := PostS.up (h' := h') (tk := tk) p h
    cases q2 : Mini.execs X γ cf ρ' σ' with
    | nxt _ _ => rw [q2] at h; exact h
    | _ => rw [q2] at h; exact h.elim
  | ret v ρ' σ' =>
    rw [q] at h
    simp only [finish] at h
    intro μ' m' h' tk cv p S fr rv
    refine hb c2 ⟨T.fe, S, fr, T.gr.mono p⟩ ?_
    have h := PostS.up (h' := h') (tk := tk) p h
    cases q2 : Mini.execs X γ cf ρ' σ' with
    | nxt _ _ => rw [q2] at h; exact fun μ'' m'' h'' tk'' p'' S'' fr'' => h μ'' m'' h'' tk'' cv p'' S'' fr'' (rv.mono p'')
    | _ => rw [q2] at h; exact h.elim
  | exc e ρ' σ' => rw [q] at h; exact h.elim
  | bad => rw [q] at h; exact h
end
end Mini

end

section
set_option autoImplicit false
namespace Mini
open PySem PySem.W PySem.Calls PyProof PyProof.Rows PyProof.V PySem.Spec PySem.SeqAt

section
variable {Z : Cx} {G : Str → Option AV} {Sc : Mini.Sc} {env : Env} {cl : List (Str × Addr)} {γ : List (Str × Nat)} {ρ : Loc} {ex ex' own : List (Addr × Obj)} {fs : List (Addr × Data)} {L L' I : Addr} {m m' : Str → Option Value} {μ : List Addr} {σ : Store} {s : Shared} {A : Around} {E : Value → Shared → Prop} {X : IX} {n i : Nat} {it : It}

def putMany (ρ : Loc) : List Str → List AV → Loc
  | n :: ns, v :: vs => putMany (putLoc n v ρ) ns vs
  | _, _ => ρ
def updM (m : Str → Option Value) : List Str → List Value → Str → Option Value
  | n :: ns, v :: vs => updM (fun y => if y = n then some v else m y) ns vs
  | _, _ => m

theorem kind_local (fe : FE G Sc env L cl) {x : Str} (h : env.kindOf x = some .local) : Sc.kind x = some .local := by
  rcases fe.knd x with q | ⟨_, q⟩
  · rw [← q, h]
  · rw [h] at q; cases q

theorem assignTs_locs {k : Nat} (fe : FE G Sc env L cl) : ∀ {ts : List Expr} {names : List Str} {cts : CTs} {vs : List AV} {ρ : Loc}, cTs Sc k ts = some cts → All2 (fun a b => ∃ p, a = .Name b p ∧ env.kindOf b = some .local) ts names → vs.length = names.length →
    assignTs X γ ρ cts vs σ = .ok (putMany ρ names vs) σ
  | [], names, cts, vs, ρ, c, r, hl => by
    cases r
    cases k with
    | zero => unfold cTs at c; cases c
    | succ k =>
      cases cTs_nil c
      cases vs with
      | nil => rw [assignTs]; rfl
      | cons => simp at hl
  | t :: ts, names, cts, vs, ρ, c, r, hl => by
    cases k with
    | zero => unfold cTs at c; cases c
    | succ k =>
      obtain ⟨c1, d, h1, h2, rfl⟩ := cTs_cons c
      cases r with
      | @cons _ b _ names' hb r =>
        obtain ⟨p, rfl, hk⟩ := hb
        cases vs with
        | nil => simp at hl
        | cons v vs =>
          have : c1 = .loc b := by
            cases k with
            | zero => unfold cT at h1; cases h1
            | succ k =>
              unfold cT at h1
              dsimp only at h1
              rw [kind_local fe hk] at h1
              cases h1; rfl
          subst this
          rw [assignTs, assignT]
          show assignTs X γ (putLoc b v ρ) d vs σ = _
          rw [assignTs_locs fe h2 r (by simpa using hl)]
          rfl

theorem store_many (fe : FE G Sc env L cl) : ∀ {ns : List Str} {cvs : List Value} {m : Str → Option Value} {s : Shared} {Q : Unit → Shared → Prop}, (∀ x ∈ ns, env.kindOf x = some .local) → ns.length = cvs.length → SR Z ex fs L m μ σ s.heap →
    (∀ h' tk, SR Z ex fs L (updM m ns cvs) μ σ h' → Q () { s with heap := h', toks := tk }) → wpAny (model Z.prog Z.w) A (assignInOrder (ns.map fun n => bindName env n) cvs) Q E s
  | [], [], _, s, _, _, _, S, h => wpAny_assignInOrder_none (h s.heap s.toks S)
  | x :: ns, v :: cvs, m, s, Q, hk, hl, S, h => by
    refine wpAny_assignInOrder_more (wpAny_bindName ?_)
    refine wpAny_storeName_local (hk x (.head _)) (fe.loc ▸ S.fr.ns) (fun h' hn hs => ?_) (by rw [fe.kind]; rfl)
    have S' := S.frame (fe.loc ▸ hn) (fe.loc ▸ hs)
    exact store_many fe (s := { s with heap := h', toks := s.toks + 1 }) (fun y hy => hk y (.tail _ hy)) (by simpa using hl) S' fun h'' tk S'' => h h'' tk S''
  | [], _ :: _, _, _, _, _, hl, _, _ => by simp at hl
  | _ :: _, [], _, _, _, _, hl, _, _ => by simp at hl

theorem FRel.rev {names : List Str} {vs : List AV} {cvs : List Value} (fr : FRel μ ρ m) (r : VRs μ vs cvs) (hl : names.length = vs.length) (h3 : names.length ≤ 3) (h2 : 2 ≤ names.length)
    (hd : ∀ i j : Nat, i < j → ∀ a b, names[i]? = some a → names[j]? = some b → a ≠ b) : FRel μ (putMany ρ names vs) (updM m names.reverse cvs.reverse) := by
  match names, h3, h2 with
  | [x, y], _, _ =>
    cases r with
    | nil => simp at hl
    | @cons v1 c1 vs cs r1 r =>
    cases r with
    | nil => simp at hl
    | @cons v2 c2 vs cs r2 r =>
    cases r with
    | cons => simp at hl
    | nil =>
    have hxy := hd 0 1 (by decide) x y rfl rfl
    intro z w e
    simp only [putMany, putLoc] at e
    rw [lookup_putAttr, lookup_putAttr] at e
    show ∃ cv, (if z = x then some c1 else (if z = y then some c2 else m z)) = some cv ∧ _
    by_cases hy : z = y
    · rw [if_pos hy] at e; cases e
      exact ⟨c2, by rw [if_neg (by rw [hy]; exact hxy.symm), if_pos hy], r2⟩
    · rw [if_neg hy] at e
      by_cases hx : z = x
      · rw [if_pos hx] at e; cases e
        exact ⟨c1, by rw [if_pos hx], r1⟩
      · rw [if_neg hx] at e
        obtain ⟨cv, a, b⟩ := fr z w e
        exact ⟨cv, by rw [if_neg hx, if_neg hy]; exact a, b⟩
  | [x, y, u], _, _ =>
    cases r with
    | nil => simp at hl
    | @cons v1 c1 vs cs r1 r =>
    cases r with
    | nil => simp at hl
    | @cons v2 c2 vs cs r2 r =>
    cases r with
    | nil => simp at hl
    | @cons v3 c3 vs cs r3 r =>
    cases r with
    | cons => simp at hl
    | nil =>
    have hxy := hd 0 1 (by decide) x y rfl rfl
    have hxu := hd 0 2 (by decide) x u rfl rfl
    have hyu := hd 1 2 (by decide) y u rfl rfl
    intro z w e
    simp only [putMany, putLoc] at e
    rw [lookup_putAttr, lookup_putAttr, lookup_putAttr] at e
    show ∃ cv, (if z = x then some c1 else (if z = y then some c2 else (if z = u then some c3 else m z))) = some cv ∧ _
    by_cases hu : z = u
    · rw [if_pos hu] at e; cases e
      exact ⟨c3, by rw [if_neg (by rw [hu]; exact hxu.symm), if_neg (by rw [hu]; exact hyu.symm), if_pos hu], r3⟩
    · rw [if_neg hu] at e
      by_cases hy : z = y
      · rw [if_pos hy] at e; cases e
        exact ⟨c2, by rw [if_neg (by rw [hy]; exact hxy.symm), if_pos hy], r2⟩
      · rw [if_neg hy] at e
        by_cases hx : z = x
        · rw [if_pos hx] at e; cases e
          exact ⟨c1, by rw [if_pos hx], r1⟩
        · rw [if_neg hx] at e
          obtain ⟨cv, a, b⟩ := fr z w e
          exact ⟨cv, by rw [if_neg hx, if_neg hy, if_neg hu]; exact a, b⟩

theorem st_swapped {k k1 : Nat} (hh : A.handled = none) (he : HE Z G X A k) {ts vs : List Expr} {kd kd' : Nat} {p1 p2 pos : Pos} {cts : CTs} {ce : CE} {names : List Str} {Q : Flow → Shared → Prop}
    (c1 : cTs Sc k1 ts = some cts) (c2 : cE Sc k (.Tuple vs kd' p2) = some ce) (hsw : swappedStores [.Tuple ts kd p1] (.Tuple vs kd' p2) env = pure (some names)) (hn : All2 (fun a b => ∃ p, a = .Name b p ∧ env.kindOf b = some .local) ts names)
    (h3 : ts.length ≤ 3) (h2 : 2 ≤ ts.length) (hd : ∀ i j : Nat, i < j → ∀ a b, names[i]? = some a → names[j]? = some b → a ≠ b) (T : St Z G Sc env cl γ ρ ex fs L m μ σ s)
    (h : PostS Z ex fs L μ s Q E (Mini.exec X γ (.asg (.cons (.tup cts) .nil) ce) ρ σ)) : wpAny (model Z.prog Z.w) A (PySem.exec (.Assign [.Tuple ts kd p1] (.Tuple vs kd' p2) pos) env) Q E s := by
  rw [Mini.exec] at h
  show wpAny _ A (do
    standAt pos
    if ← swapsWithSole [.Tuple ts kd p1] (.Tuple vs kd' p2) pos.line env then do
      evalThenUse (.Tuple vs kd' p2) env fun v => assignAll v ((assignEach [.Tuple ts kd p1] env).map (·.2))
      pure .next
    else do
      let v ← eval (.Tuple vs kd' p2) env
      assignStores env v (← swappedStores [.Tuple ts kd p1] (.Tuple vs kd' p2) env) ((assignEach [.Tuple ts kd p1] env).map (·.2))) Q E s
  rw [hsw]
  refine wpAny_bind (wpAny_standAt ?_)
  show wpAny _ A (do
      let v ← eval (.Tuple vs kd' p2) env
      assignStores env v (some names) ((assignEach [.Tuple ts kd p1] env).map (·.2))) Q E s
  refine wpAny_bind (he c2 T (h.bind fun v σ1 μ1 cv h1 t1 pp S1 rv h => ?_))
  have hln := hn.length
  show wpAny _ A (do
    rule "assign.swapped-stores"
    let items ← unpackItems cv names.length none
    assignInOrder (names.reverse.map fun n => bindName env n) items.reverse
    pure .next) Q E _
  rw [assignT] at h
  split at h
  · rename_i us hu
    split at h
    · rename_i hlen
      unfold unpackM at hu
      split at hu
      · rename_i j
        obtain ⟨a, ha, rfl⟩ := rv
        split at hu
        · rename_i xs hj
          cases hu
          obtain ⟨ob, g, r⟩ := S1.at' hj ha
          obtain ⟨uv, ht, r, hsz, hz⟩ := r.isTup g
          obtain ⟨_, _, a3⟩ := assignEach_plain (env := env) c1
          have hl1 : us.length = names.length := by rw [eq_of_beq hlen, a3, hln]
          have e0 : names.length = uv.size := by rw [hsz, hl1]
          rw [assignTs_locs T.fe c1 hn hl1] at h
          refine wpAny_bind (wpAny_rule (wpAny_bind ?_))
          rw [e0]
          refine wpAny_unpackItems_tuple hh ht fun h' hx => wpAny_bind ?_
          have S2 := SR.keepsNot (s := { s with heap := h1, toks := t1 }) S1 fun b o hb e => hx b o hb e
          have hnames : ∀ x ∈ names.reverse, env.kindOf x = some .local := by
            intro x hx
            obtain ⟨a, _, _, _, hk⟩ := hn.memR (List.mem_reverse.mp hx)
            exact hk
          refine store_many (s := { s with heap := h', toks := t1 }) T.fe hnames (by simp [e0]) S2 fun h'' tk S3 => wpAny_pure ?_
          exact h μ1 _ h'' tk (Pre.refl _) S3 (FRel.rev (T.fr.mono pp) r hl1.symm (by rw [← hln]; exact h3) (by rw [← hln]; exact h2) hd)
        · cases hu
      · cases hu
    · exact h.elim
  · exact h.elim

theorem swaps_pure {value t : Expr} {line : Nat} : swapsWith value (some t) line env = pure false ∨ (∃ elt gens sc p y py, value = .ListComp elt gens sc p ∧ t = .Name y py ∧ env.kindOf y = some .local ∧ swapsWith value (some t) line env = pure true) ∨ isComp value = true ∧ ∀ elt gens sc p, value ≠ .ListComp elt gens sc p := by
  cases value <;> try exact .inl rfl
  case ListComp elt gens sc p =>
    cases t <;> try exact .inl rfl
    rename_i y py
    unfold swapsWith
    dsimp only
    cases q : (env.blockKind == ScopeKind.function && env.kindOf y == some NameKind.local && py.line == (Expr.ListComp elt gens sc p).pos.line && !(sc.names.any fun x => match x with | (n, k) => n == y && (k == NameKind.local || k == NameKind.cell))) with
    | false => exact .inl (by rw [← q])
    | true =>
      right; left
      refine ⟨elt, gens, sc, p, y, py, rfl, rfl, ?_, by rw [← q]⟩
      simp only [Bool.and_eq_true] at q
      exact eq_of_beq q.1.1.2
  all_goals exact .inr (.inr ⟨rfl, by intro _ _ _ _ e; cases e⟩)
end
end Mini

end

section
set_option autoImplicit false
namespace Mini
open PySem PySem.W PySem.Calls PyProof PyProof.Rows PyProof.V PySem.Spec PySem.SeqAt

section
variable {Z : Cx} {G : Str → Option AV} {Sc : Mini.Sc} {env : Env} {cl : List (Str × Addr)} {γ : List (Str × Nat)} {ρ : Loc} {ex ex' own : List (Addr × Obj)} {fs : List (Addr × Data)} {L L' I : Addr} {m m' : Str → Option Value} {μ : List Addr} {σ : Store} {s : Shared} {A : Around} {E : Value → Shared → Prop} {X : IX} {n i : Nat} {it : It}

/-- everything about one fuel, but statements -/
structure HX (Z : Cx) (G : Str → Option AV) (X : IX) (A : Around) (k : Nat) : Prop where
  e : HE Z G X A k
  tr : HTr Z G X A k
  l : HL Z G X A k
  kw : HK Z G X A k
  o : HO Z G X A k
  c : HC Z G X A k
  b : HB Z G X A k
  i : HI Z G X A k
  a : HA Z G X A k
  as : HAs Z G X A k
  f : HF Z G X A k

theorem hx_zero : HX Z G X A 0 where
  e := by intro _ _ _ _ _ _ _ _ _ _ _ _ _ _ _ _ c; unfold cE at c; cases c
  tr := by intro _ _ _ _ _ _ _ _ _ _ _ _ _ _ _ _ c; unfold cE at c; cases c
  l := by intro _ _ _ _ _ _ _ _ _ _ _ _ _ _ _ _ _ c; unfold cL at c; cases c
  kw := by intro _ _ _ _ _ _ _ _ _ _ _ _ _ _ _ _ _ c; unfold cKw at c; cases c
  o := by intro _ _ _ _ _ _ _ _ _ _ _ _ _ _ _ _ c; unfold cO at c; cases c
  c := by intro _ _ _ _ _ _ _ _ _ _ _ _ _ _ _ _ _ _ _ c; unfold cL at c; cases c
  b := by intro _ _ _ _ _ _ _ _ _ _ _ _ _ _ _ _ c; unfold cL at c; cases c
  i := by intro _ _ _ _ _ _ _ _ _ _ _ _ _ _ _ _ c; unfold cI at c; cases c
  a := by intro _ _ _ _ _ _ _ _ _ _ _ _ _ _ _ _ _ _ c; unfold cT at c; cases c
  as := by intro _ _ _ _ _ _ _ _ _ _ _ _ _ _ _ _ _ _ c; unfold cTs at c; cases c
  f := by intro _ _ _ _ _ _ _ _ _ _ _ _ _ _ _ _ c; unfold cL at c; cases c

theorem ho_step {k : Nat} (he : HE Z G X A k) : HO Z G X A (k + 1) := by
  intro Sc env cl γ ρ ex fs L m μ σ s E e c Q h1 T h
  exact opt_snd he h1 T h

theorem hx_step {k : Nat} (O : Ok Z G) (XO : XOk Z X n) (hr : RoomB n A) (hW : X.W ≤ 50000) (H : ∀ j, j ≤ k → HX Z G X A j) : HX Z G X A (k + 1) := by
  have hk := H k (Nat.le_refl _)
  have he : HE Z G X A (k + 1) := he_step O XO hr hW (fun j hj => (H j hj).e) hk.l hk.kw hk.o hk.c hk.b hk.i hk.a hk.f
  exact {
    e := he
    tr := htr_step he hk.e hk.tr hk.b hk.c
    l := hl_step hk.e hk.l
    kw := hk_step hk.e hk.kw
    o := ho_step hk.e
    c := hc_step O XO hr hk.e hk.c
    b := hb_step hk.e hk.tr hk.b
    i := hi_step O hk.e hk.l
    a := ha_step O XO hr hk.e hk.as
    as := has_step hk.a hk.as
    f := hf_step hk.tr hk.f }
theorem hx_all (O : Ok Z G) (XO : XOk Z X n) (hr : RoomB n A) (hW : X.W ≤ 50000) : ∀ k, HX Z G X A k := by
  have : ∀ k j, j ≤ k → HX Z G X A j := by
    intro k
    induction k with
    | zero => intro j hj; rw [Nat.le_zero.mp hj]; exact hx_zero
    | succ k ih =>
      intro j hj
      rcases Nat.lt_or_ge j (k + 1) with h | h
      · exact ih j (Nat.le_of_lt_succ h)
      · rw [Nat.le_antisymm hj h]; exact hx_step O XO hr hW ih
  exact fun k => this k k (Nat.le_refl _)

theorem st_asg {k : Nat} (hh : A.handled = none) (hW : X.W ≤ 50000) (H : ∀ j, HX Z G X A j) {t x : Expr} {pos : Pos} {ct : CT} {ce : CE} {Q : Flow → Shared → Prop} (hsf : swapFine t x = true) (c1 : cT Sc k t = some ct) (c2 : cE Sc k x = some ce) (T : St Z G Sc env cl γ ρ ex fs L m μ σ s)
    (h : PostS Z ex fs L μ s Q E (Mini.exec X γ (.asg (.cons ct .nil) ce) ρ σ)) : wpAny (model Z.prog Z.w) A (PySem.exec (.Assign [t] x pos) env) Q E s := by
  have hstar : ∀ e p, t ≠ .Starred e p := by rintro e p rfl; exact cT_noStar c1
  rcases swaps_pure (value := x) (t := t) (line := pos.line) (env := env) with hs | ⟨elt, gens, sc, p, y, py, rfl, rfl, hy, hs⟩ | ⟨h1, h2⟩
  · rcases swapped_cases (env := env) hsf with h0 | ⟨ts, kd, p1, vs, kd', p2, names, rfl, rfl, hsw, hn, h3, h2, hd⟩
    · rw [Mini.exec] at h
      refine wpAny_Assign_stores ((H k).e c2 T (h.bind fun v σ1 μ1 cv h1 t1 pp S1 rv h => ?_)) hs h0
      rw [assignEach_cons hstar]
      show wpAny _ A (assign t env cv) _ E _
      refine (H k).a c1 (T.next pp S1) rv ?_
      cases q : assignT X γ ρ ct v σ1 with
      | bad => rw [q] at h; exact h
      | exc e σ' => rw [q] at h; exact ExcPostS.no h
      | ok ρ' σ' =>
        rw [q] at h
        exact fun μ' m' h' tk p S fr => h μ' m' h' tk p S fr
    · cases k with
      | zero => unfold cT at c1; cases c1
      | succ k =>
        have c1' := c1
        unfold cT at c1'
        obtain ⟨cts, h4, rfl⟩ := Option.map_eq_some_iff.mp c1'
        exact st_swapped hh (H (k + 1)).e h4 c2 hsw hn h3 h2 hd T h
  · -- a comprehension whose block gives back the names late
    cases k with
    | zero => unfold cE at c2; cases c2
    | succ k =>
      unfold cE at c2
      rcases gens with _ | ⟨⟨t', it', ifs, as⟩, _ | ⟨_, _⟩⟩
      · cases c2
      · replace c2 : (if (as != 0 || !scFine Sc.kind sc) = true then none else (cI Sc k it').bind fun it => if (!zipFine it t') = true then none else (cT (inner Sc sc) k t').bind fun t => (cL (inner Sc sc) k ifs).bind fun ifs => (cE (inner Sc sc) k elt).map fun e => CE.comp e t it ifs) = some ce := c2
        split at c2
        · cases c2
        · rename_i hsc
          rw [Bool.or_eq_true, not_or] at hsc
          have h0 : as = 0 := by simpa using hsc.1
          subst h0
          obtain ⟨ci, d1, c2⟩ := Option.bind_eq_some_iff.mp c2
          split at c2
          · cases c2
          rename_i hzf
          obtain ⟨ct', d2, c2⟩ := Option.bind_eq_some_iff.mp c2
          obtain ⟨cifs, d3, c2⟩ := Option.bind_eq_some_iff.mp c2
          obtain ⟨ce', d4, rfl⟩ := Option.map_eq_some_iff.mp c2
          have hky := kind_local T.fe hy
          have : ct = .loc y := by
            unfold cT at c1
            dsimp only at c1
            rw [hky] at c1
            cases c1; rfl
          subst this
          rw [Mini.exec] at h
          rw [exec_Assign_Name_used _ _ _ _ hs]
          refine wpAny_bind (wpAny_standAt (wpAny_bind ?_))
          show wpAny _ A (do let _ ← comprehension (.ListComp elt [⟨t', it', ifs, 0⟩] sc p) sc env _ (newList []) false (eval it' env) (some (assign (.Name y py) env))) _ _ s
          refine wpAny_bind (wpAny_mono (comp_snd (use := some (assign (.Name y py) env)) (Q := fun _ s' => Q .next s') (E := E) hh hW (H k).i (H k).e (H k).a (H k).f (by simpa using hsc.2) d1 (by simpa using hzf) d2 d3 d4 T ?_) (fun _ s' hq => wpAny_pure (wpAny_pure hq)) fun _ _ e => e)
          cases q : evalE X γ ρ (.comp ce' ct' ci cifs) σ with
          | bad => rw [q] at h; exact h
          | exc e σ' => rw [q] at h; exact ExcPostS.no h
          | ok v σ' =>
            rw [q] at h
            intro μ' D h' tk L'' o m₁ p' S hx hf hns rv
            refine wpAny_assign_Name (store_local (s := { s with heap := h', toks := tk }) T.fe S (T.fr.mono p') hky rv fun m2 h2 tk2 S2 fr2 => ?_)
            have g1 := (S.ex (L'', o) (.head _)).1
            have g2 := (S2.ex (L'', o) (.head _)).1
            refine ⟨m₁, Ns.of_data hns g1 g2 rfl, fun h3 hs3 => ?_⟩
            have h : PostS Z ex fs L μ s Q E ((assignT X γ ρ (.loc y) v σ').then ρ fun ρ σ => .nxt ρ σ) := h
            rw [assignT] at h
            exact h μ' m2 h3 tk2 p' (S2.gone hx hf hs3.extBut) fr2
      · cases c2
  · exfalso
    cases k with
    | zero => unfold cE at c2; cases c2
    | succ k =>
      cases x <;> try (cases h1; done)
      · exact h2 _ _ _ _ rfl
      · unfold cE at c2; cases c2
      · unfold cE at c2; cases c2
end
end Mini

end

section
set_option autoImplicit false
namespace Mini
open PySem PySem.W PySem.Calls PyProof PyProof.Rows PyProof.V PySem.Spec PySem.SeqAt

section
variable {Z : Cx} {G : Str → Option AV} {Sc : Mini.Sc} {env : Env} {cl : List (Str × Addr)} {γ : List (Str × Nat)} {ρ : Loc} {ex ex' own : List (Addr × Obj)} {fs : List (Addr × Data)} {L L' I : Addr} {m m' : Str → Option Value} {μ : List Addr} {σ : Store} {s : Shared} {A : Around} {E : Value → Shared → Prop} {X : IX} {n i : Nat} {it : It}

theorem hs_step {k : Nat} (hh : A.handled = none) (hW : X.W ≤ 50000) (H : ∀ j, HX Z G X A j) (hb : HBl Z G X A k) : HS Z G X A (k + 1) := by
  intro Sc env cl γ ρ ex fs L m μ σ s E st cs Q c T h
  have hk := H k
  cases st with
  | Expr e pos =>
    unfold cS at c
    have c : (if isComp e = true then none else (cE Sc k e).map .expr) = some cs := c
    split at c
    · cases c
    · rename_i hc
      obtain ⟨ce, h1, rfl⟩ := Option.map_eq_some_iff.mp c
      exact st_expr hk.e (by simpa using hc) h1 T h
  | Pass pos =>
    unfold cS at c; cases c
    rw [Mini.exec] at h
    exact wpAny_Pass (h.here0 T)
  | Break pos =>
    unfold cS at c; cases c
    rw [Mini.exec] at h
    exact wpAny_Break (h μ m s.heap s.toks (Pre.refl _) T.sr T.fr)
  | Continue pos =>
    unfold cS at c; cases c
    rw [Mini.exec] at h
    exact wpAny_Continue (h μ m s.heap s.toks (Pre.refl _) T.sr T.fr)
  | Return e pos =>
    cases e with
    | none =>
      unfold cS at c; cases c
      rw [Mini.exec, evalE] at h
      exact wpAny_Return_none (h μ m s.heap s.toks .none (Pre.refl _) T.sr T.fr rfl)
    | some e =>
      unfold cS at c
      obtain ⟨ce, h1, rfl⟩ := Option.map_eq_some_iff.mp c
      exact st_ret hk.e h1 T h
  | Assign ts e pos =>
    unfold cS at c
    rcases ts with _ | ⟨t, _ | ⟨_, _⟩⟩
    · cases c
    · have c : (if swapFine t e = true then (cT Sc k t).bind fun t => (cE Sc k e).map (.asg (.cons t .nil)) else none) = some cs := c
      split at c
      · rename_i hsf
        obtain ⟨ct, h1, c⟩ := Option.bind_eq_some_iff.mp c
        obtain ⟨ce, h2, rfl⟩ := Option.map_eq_some_iff.mp c
        exact st_asg hh hW H hsf h1 h2 T h
      · cases c
    · cases c
  | AugAssign t op e pos =>
    unfold cS at c
    obtain ⟨ct, h1, c⟩ := Option.bind_eq_some_iff.mp c
    obtain ⟨ce, h2, rfl⟩ := Option.map_eq_some_iff.mp c
    rw [Mini.exec] at h
    cases k with
    | zero => unfold cT at h1; cases h1
    | succ k =>
      unfold cT at h1
      cases t <;> try (cases h1; done)
      case Name x np =>
        dsimp only at h1
        split at h1
        · rename_i hkx
          cases h1
          exact st_augL hk.e hkx h2 T h
        · cases h1; exact h.elim
        · cases h1
      case Attribute a x np =>
        obtain ⟨ca, _, rfl⟩ := Option.map_eq_some_iff.mp h1
        exact h.elim
      case Subscript a i np =>
        have hi : ∀ lo up st p, i ≠ .Slice lo up st p := by rintro lo up st p rfl; cases h1
        have h1 : ((cE Sc k a).bind fun a => (cE Sc k i).map (.sub a)) = some ct := by cases i <;> first | exact h1 | exact absurd rfl (hi _ _ _ _)
        obtain ⟨ca, h3, h1⟩ := Option.bind_eq_some_iff.mp h1
        obtain ⟨ci, h4, rfl⟩ := Option.map_eq_some_iff.mp h1
        exact st_augS hk.e (H k).e h3 h4 h2 hi T h
      all_goals
        obtain ⟨cts, _, rfl⟩ := Option.map_eq_some_iff.mp h1
        exact h.elim
  | If x a b pos =>
    unfold cS at c
    obtain ⟨ce, h1, c⟩ := Option.bind_eq_some_iff.mp c
    obtain ⟨ca, h2, c⟩ := Option.bind_eq_some_iff.mp c
    obtain ⟨cb, h3, rfl⟩ := Option.map_eq_some_iff.mp c
    exact st_ite hk.tr hb h1 h2 h3 T h
  | While x b oe pos =>
    unfold cS at c
    cases oe with
    | cons => cases c
    | nil =>
      obtain ⟨ce, h1, c⟩ := Option.bind_eq_some_iff.mp c
      obtain ⟨cb, h2, rfl⟩ := Option.map_eq_some_iff.mp c
      exact st_while hk.tr hb h1 h2 T h
  | For t x b oe pos =>
    unfold cS at c
    cases oe with
    | cons => cases c
    | nil =>
      have c : ((cI Sc k x).bind fun it => if (!zipFine it t) = true then none else (cT Sc k t).bind fun t => (cB Sc k b).map (.forr t it)) = some cs := c
      obtain ⟨ci, h2, c⟩ := Option.bind_eq_some_iff.mp c
      split at c
      · cases c
      rename_i hzf
      obtain ⟨ct, h1, c⟩ := Option.bind_eq_some_iff.mp c
      obtain ⟨cb, h3, rfl⟩ := Option.map_eq_some_iff.mp c
      exact st_for hh hk.a hk.i hb h1 h2 h3 (by simpa using hzf) (cI_noSet h2) T h
  | Try b hs oe fin pos =>
    unfold cS at c
    rcases hs with _ | ⟨⟨ht, hn, hbd, hp⟩, _ | ⟨_, _⟩⟩
    · cases oe with
      | cons => cases c
      | nil =>
        cases fin with
        | nil => cases c
        | cons f fs' =>
          obtain ⟨cb, h1, c⟩ := Option.bind_eq_some_iff.mp c
          obtain ⟨cf, h2, rfl⟩ := Option.map_eq_some_iff.mp c
          exact st_tryF hb h1 h2 T h
    · cases ht with
      | none => cases c
      | some x =>
        cases hn with
        | some => cases c
        | none =>
          cases oe with
          | cons => cases c
          | nil =>
            cases fin with
            | cons => cases c
            | nil =>
              obtain ⟨cb, h1, c⟩ := Option.bind_eq_some_iff.mp c
              obtain ⟨cx, h2, c⟩ := Option.bind_eq_some_iff.mp c
              split at c
              · obtain ⟨ch, h3, rfl⟩ := Option.map_eq_some_iff.mp c
                exact st_tryE hb h1 T h
              · cases c
    · cases ht <;> cases hn <;> cases oe <;> cases fin <;> cases c
  | Assert x msg pos =>
    unfold cS at c
    cases msg with
    | some => cases c
    | none =>
      obtain ⟨ce, h1, rfl⟩ := Option.map_eq_some_iff.mp c
      exact st_assert hk.tr h1 T h
  | Raise x cause pos =>
    have : ∃ cf, cs = .raise cf := by
      unfold cS at c
      split at c <;> first
        | (cases c; done)
        | (obtain ⟨cf, _, rfl⟩ := Option.map_eq_some_iff.mp c; exact ⟨cf, rfl⟩)
        | (exfalso; simp_all; done)
    obtain ⟨cf, rfl⟩ := this
    unfold Mini.exec at h
    split at h
    · exact ExcPostS.no h
    · exact h.elim
  | _ => unfold cS at c; cases c
end
end Mini

end

section
set_option autoImplicit false
namespace Mini
open PySem PySem.W PySem.Calls PyProof PyProof.Rows PyProof.V PySem.Spec PySem.SeqAt

section
variable {μ : List Addr}
theorem lookup_rel {x : Str} : ∀ {l : List (Str × AV)} {k : List (Str × Value)}, KVs μ l k → (match l.lookup x, k.lookup x with | some v, some cv => VR μ v cv | none, none => True | _, _ => False)
  | [], _, h => by cases h; trivial
  | (y, v) :: l, _, h => by
    cases h with
    | @cons _ q _ k h r =>
      obtain ⟨z, w⟩ := q
      obtain ⟨e, hv⟩ := h
      dsimp only at e hv
      subst e
      simp only [List.lookup_cons]
      cases x == y with
      | true => exact hv
      | false => exact lookup_rel r
theorem lookup_isSome {x : Str} {l : List (Str × AV)} {k : List (Str × Value)} (h : KVs μ l k) : (l.lookup x).isSome = (k.lookup x).isSome := by
  have := lookup_rel (x := x) h
  revert this
  cases l.lookup x <;> cases k.lookup x <;> intro this <;> first | rfl | exact this.elim
theorem kwFold_rel {params : List Str} : ∀ {kw slots : List (Str × AV)} {ckw cslots : List (Str × Value)} {r : List (Str × AV)}, KVs μ kw ckw → KVs μ slots cslots → kwFold params kw slots = some r → ∃ cr, kwFold params ckw cslots = some cr ∧ KVs μ r cr
  | [], slots, _, cslots, r, h, hs, e => by cases h; cases e; exact ⟨_, rfl, hs⟩
  | (k, v) :: kw, slots, _, cslots, r, h, hs, e => by
    cases h with
    | @cons _ q _ ckw h hr =>
      obtain ⟨k', cv⟩ := q
      obtain ⟨e1, hv⟩ := h
      dsimp only at e1 hv
      subst e1
      simp only [kwFold] at e ⊢
      split at e
      · rename_i hc
        rw [if_pos hc]
        rw [lookup_isSome hs] at e
        split at e
        · cases e
        · rename_i hn
          rw [if_neg hn]
          exact kwFold_rel hr (All2.append hs (.cons ⟨rfl, hv⟩ .nil)) e
      · cases e
theorem defFold_rel : ∀ {ds slots : List (Str × AV)} {cds cslots : List (Str × Value)}, KVs μ ds cds → KVs μ slots cslots → KVs μ (defFold ds slots) (defFold cds cslots)
  | [], _, _, _, h, hs => by cases h; exact hs
  | (k, v) :: ds, slots, _, cslots, h, hs => by
    cases h with
    | @cons _ q _ cds h hr =>
      obtain ⟨k', cv⟩ := q
      obtain ⟨e1, hv⟩ := h
      dsimp only at e1 hv
      subst e1
      simp only [defFold]
      have : (slots.lookup k).isNone = (cslots.lookup k).isNone := by
        have := lookup_isSome (x := k) hs
        rw [← Option.not_isSome, ← Option.not_isSome, this]
      rw [this]
      split
      · exact defFold_rel hr (All2.append hs (.cons ⟨rfl, hv⟩ .nil))
      · exact defFold_rel hr hs
theorem zip_rel {ns : List Str} : ∀ {vs : List AV} {cvs : List Value}, VRs μ vs cvs → KVs μ (ns.zip vs) (ns.zip cvs) := by
  induction ns with
  | nil => intro _ _ _; exact .nil
  | cons n ns ih =>
    intro vs cvs h
    cases h with
    | nil => exact .nil
    | cons a b => exact .cons ⟨rfl, a⟩ (ih b)
theorem bindG_rel {params : List Str} {defs args : List AV} {cdefs cargs : List Value} {kw : List (Str × AV)} {ckw : List (Str × Value)} {r : List (Str × AV)} (hd : VRs μ defs cdefs) (ha : VRs μ args cargs) (hk : KVs μ kw ckw) (e : bindG params defs args kw = some r) :
    ∃ cr, bindG params cdefs cargs ckw = some cr ∧ KVs μ r cr := by
  unfold bindG at e ⊢
  obtain ⟨slots, h1, e⟩ := Option.bind_eq_some_iff.mp e
  obtain ⟨cslots, h2, hs⟩ := kwFold_rel hk (zip_rel ha) h1
  rw [h2, Option.bind_some, ← ha.length, ← hd.length]
  split at e
  · cases e
  · rename_i n1
    rw [if_neg n1]
    split at e
    · cases e
    · rename_i n2
      rw [if_neg n2]
      split at e
      · rename_i n3
        cases e
        have : (params.take (params.length - defs.length)).filter (fun n => (cslots.lookup n).isNone) = (params.take (params.length - defs.length)).filter (fun n => (slots.lookup n).isNone) := by
          congr 1
          funext n
          have := lookup_isSome (x := n) hs
          rw [← Option.not_isSome, ← Option.not_isSome, this]
        rw [this, if_pos n3]
        refine ⟨_, rfl, ?_⟩
        have hd' := defFold_rel (zip_rel (ns := params.drop (params.length - defs.length)) hd) hs
        generalize defFold _ slots = f at hd' ⊢
        generalize defFold _ cslots = cf at hd' ⊢
        generalize hps : params = ps
        clear hps this n3 n1 n2 h1 h2
        induction ps with
        | nil => exact .nil
        | cons n ns ih =>
          simp only [List.filterMap_cons]
          have := lookup_rel (x := n) hd'
          revert this
          cases f.lookup n <;> cases cf.lookup n <;> intro this
          · exact ih
          · exact this.elim
          · exact this.elim
          · exact .cons ⟨rfl, this⟩ ih
      · cases e
end

/-- the parameters are plain -/
def plainParams (p : Arguments) : Bool := p.posonlyargs.isEmpty && p.kwonlyargs.isEmpty && p.vararg.isNone && p.kwarg.isNone

section
variable {M : Model} {A : Around} {E : Value → Shared → Prop} {s : Shared}

theorem kw_loop {params : List Str} {f : Str × Value → List (Str × Value) × List (Str × Value) → Sem (ForInStep (List (Str × Value) × List (Str × Value)))}
    (hf : ∀ k v slots extra, params.contains k = true → (List.lookup k slots).isSome = false → f (k, v) (slots, extra) = pure (ForInStep.yield (slots ++ [(k, v)], extra))) :
    ∀ {kw slots r : List (Str × Value)}, kwFold params kw slots = some r → forIn kw (slots, ([] : List (Str × Value))) f = pure (r, [])
  | [], slots, r, e => by cases e; rfl
  | (k, v) :: kw, slots, r, e => by
    simp only [kwFold] at e
    split at e
    · rename_i hc
      split at e
      · cases e
      · rename_i hn
        rw [List.forIn_cons, hf k v slots [] hc (by rw [Bool.not_eq_true] at hn; exact hn)]
        exact kw_loop hf e
    · cases e
theorem def_loop {f : Str × Value → List (Str × Value) → Sem (ForInStep (List (Str × Value)))}
    (hf : ∀ k v slots, f (k, v) slots = pure (ForInStep.yield (if (List.lookup k slots).isNone = true then slots ++ [(k, v)] else slots))) :
    ∀ {ds slots : List (Str × Value)}, forIn ds slots f = pure (defFold ds slots)
  | [], slots => rfl
  | (k, v) :: ds, slots => by
    rw [List.forIn_cons, hf k v slots]
    exact def_loop hf

theorem bindArgs_snd {fd : FuncData} {cdefs cargs : List Value} {ckw cr : List (Str × Value)} {Q : List (Str × Value) → Shared → Prop} (hp : plainParams fd.params = true)
    (hd : ∀ {Q : Option (Array Value) → Shared → Prop}, (∀ o, (o.getD #[]).toList = cdefs → Q o s) → wpAny M A (seqItems? fd.defaults) Q E s)
    (e : bindG (fd.params.args.map (·.arg)) cdefs cargs ckw = some cr) (h : Q cr s) : wpAny M A (bindArgs fd ⟨cargs, ckw⟩) Q E s := by
  obtain ⟨nm, qn, ⟨po, pa, va, ko, kd, ka, de⟩, bd, sc, gl, cls, dfs, kdf, doc, pym, ann, cod, ct, blt⟩ := fd
  unfold plainParams at hp
  simp only [Bool.and_eq_true, List.isEmpty_iff, Option.isNone_iff_eq_none] at hp
  obtain ⟨⟨⟨rfl, rfl⟩, rfl⟩, rfl⟩ := hp
  unfold bindArgs
  dsimp only at hd e ⊢
  simp only [List.map_nil, List.nil_append, List.append_nil]
  unfold bindG at e
  obtain ⟨slots, h1, e⟩ := Option.bind_eq_some_iff.mp e
  split at e
  · cases e
  · rename_i n1
    split at e
    · cases e
    · rename_i n2
      split at e
      · rename_i n3
        cases e
        refine wpAny_bind (wpAny_of_eq (kw_loop (params := pa.map (·.arg)) (fun k v slots extra hc hn => ?_) h1) ?_)
        · dsimp only
          rw [hc, Bool.true_or, if_pos rfl, hn]
          rfl
        refine wpAny_bind (hd fun o ho => ?_)
        rw [ho]
        dsimp only
        have g1 : (decide (cargs.length > (List.map (fun x : Arg => x.arg) pa).length) && (none : Option Arg).isNone) = false := by
          rw [decide_eq_false n1]; rfl
        have g2 : cdefs.length - (List.map (fun x : Arg => x.arg) pa).length = 0 := by omega
        simp only [g1, Bool.false_eq_true, if_false, g2, List.drop_zero]
        simp only [n3, Bool.not_true, Bool.false_eq_true, if_false]
        refine wpAny_bind (wpAny_of_eq (def_loop fun k v slots => by dsimp only; split <;> rfl) ?_)
        refine wpAny_bind (wpAny_pure ?_)
        exact wpAny_pure h
      · cases e
end
end Mini

end

section
set_option autoImplicit false
namespace Mini
open PySem PySem.W PySem.Calls PyProof PyProof.Rows PyProof.V PySem.Spec PySem.SeqAt

section
variable {Z : Cx} {G : Str → Option AV} {Sc : Mini.Sc} {env : Env} {cl : List (Str × Addr)} {γ : List (Str × Nat)} {ρ : Loc} {ex ex' own : List (Addr × Obj)} {fs : List (Addr × Data)} {L L' I : Addr} {m m' : Str → Option Value} {μ : List Addr} {σ : Store} {s : Shared} {A : Around} {E : Value → Shared → Prop} {X : IX} {n i : Nat} {it : It}

theorem hbl_all (O : Ok Z G) (XO : XOk Z X n) (hr : RoomB n A) (hW : X.W ≤ 50000) : ∀ k, HBl Z G X A k := by
  have H := hx_all O XO hr hW
  have : ∀ k, HS Z G X A k ∧ HBl Z G X A k := by
    intro k
    induction k with
    | zero =>
      refine ⟨?_, ?_⟩
      · intro _ _ _ _ _ _ _ _ _ _ _ _ _ _ _ _ c; unfold cS at c; cases c
      · intro _ _ _ _ _ _ _ _ _ _ _ _ _ _ _ _ c; unfold cB at c; cases c
    | succ k ih => exact ⟨hs_step hr.h hW H ih.2, hbl_step ih.1 ih.2⟩
  exact fun k => (this k).2

theorem bindL_nodup {kindOf : Str → Option NameKind} {y : Str} : ∀ {b : List (Str × Value)} {m : Str → Option Value}, (b.map (·.1)).Nodup → bindL kindOf b m y = if kindOf y = some .local then (match b.lookup y with | some v => some v | none => m y) else m y
  | [], m, _ => by simp [bindL]
  | (k, v) :: r, m, h => by
    rw [List.map_cons, List.nodup_cons] at h
    rw [bindL, bindL_nodup h.2, List.lookup_cons]
    cases hy : y == k with
    | true =>
      obtain rfl := eq_of_beq hy
      have : r.lookup y = none := by
        rw [List.lookup_eq_none_iff]
        intro p hp
        have : p.1 ≠ y := fun e => h.1 (List.mem_map.mpr ⟨p, hp, e⟩)
        simpa using fun e => this e.symm
      rw [this]
      by_cases hk : kindOf y = some .local
      · simp [hk]
      · simp [hk]
    | false =>
      have hne : y ≠ k := by simpa using hy
      by_cases hk : kindOf y = some .local
      · simp only [hk, if_true]
        cases r.lookup y with
        | some w => rfl
        | none =>
          by_cases hk' : kindOf k = some .local
          · simp [hk', hne]
          · simp [hk']
      · simp only [hk, if_false]
        by_cases hk' : kindOf k = some .local
        · simp [hk', hne]
        · simp [hk']
theorem bindC_nodup {kindOf : Str → Option NameKind} {y : Str} : ∀ {b : List (Str × Value)} {m : Str → Option Value}, (b.map (·.1)).Nodup → bindC kindOf b m y = if kindOf y = some .local then m y else (match b.lookup y with | some v => some v | none => m y)
  | [], m, _ => by simp [bindC]
  | (k, v) :: r, m, h => by
    rw [List.map_cons, List.nodup_cons] at h
    rw [bindC, bindC_nodup h.2, List.lookup_cons]
    cases hy : y == k with
    | true =>
      obtain rfl := eq_of_beq hy
      have : r.lookup y = none := by
        rw [List.lookup_eq_none_iff]
        intro p hp
        have : p.1 ≠ y := fun e => h.1 (List.mem_map.mpr ⟨p, hp, e⟩)
        simpa using fun e => this e.symm
      rw [this]
      by_cases hk : kindOf y = some .local
      · simp [hk]
      · simp [hk]
    | false =>
      have hne : y ≠ k := by simpa using hy
      by_cases hk : kindOf y = some .local
      · simp only [hk, if_true]
        by_cases hk' : kindOf k = some .local
        · simp [hk']
        · simp [hk', hne]
      · simp only [hk, if_false]
        cases r.lookup y with
        | some w => rfl
        | none =>
          by_cases hk' : kindOf k = some .local
          · simp [hk']
          · simp [hk', hne]

def addrIn (cl : List (Str × Addr)) (x : Str) : Addr := (cl.lookup x).getD 0

/-- the cells of a new frame -/
theorem SR.cells {h : Heap} {lo : Nat} {v : Str → Option AV} : ∀ {xs : List Str} {μ : List Addr} {σ : Store}, SR Z ex fs L m μ σ h → xs.Nodup →
    (∀ x ∈ xs, ∃ o cv, h.get? (addrIn cl x) = some o ∧ o.data = .cell cv ∧ lo < addrIn cl x ∧ (match v x, cv with | some a, some b => VR μ a b | none, none => True | _, _ => False)) →
    (∀ x ∈ xs, ∀ y ∈ xs, x ≠ y → addrIn cl x ≠ addrIn cl y) → (∀ x ∈ xs, addrIn cl x ∉ μ) → L ≤ lo → Z.base.objs.size ≤ lo → (∀ p ∈ ex, p.1 ≤ lo) → (∀ p ∈ fs, p.1 ≤ lo) →
    SR Z ex fs L m (μ ++ xs.map (addrIn cl)) (σ ++ xs.map fun x => .cell (v x)) h
  | [], μ, σ, S, _, _, _, _, _, _, _, _ => by simpa using S
  | x :: xs, μ, σ, S, hn, hc, hd, hμ, hL, hb, hx, hf => by
    rw [List.nodup_cons] at hn
    obtain ⟨o, cv, g, d, l, r⟩ := hc x (.head _)
    have S1 := S.add (o := .cell (v x)) g (hμ x (.head _)) (Nat.ne_of_gt (Nat.lt_of_le_of_lt hL l)) (by
      cases q : Z.base.get? (addrIn cl x) with
      | none => rfl
      | some o => exact absurd (Nat.lt_of_lt_of_le (Heap.lt_size q) hb) (Nat.not_lt.mpr (Nat.le_of_lt l))) (Nat.lt_trans (Nat.lt_of_lt_of_le Z.big hb) l) (fun p hp => Nat.ne_of_lt (Nat.lt_of_le_of_lt (hx p hp) l)) (fun p hp => Nat.ne_of_lt (Nat.lt_of_le_of_lt (hf p hp) l))
      ⟨cv, d, by
        revert r
        cases v x <;> cases cv <;> intro r <;> first | exact r.elim | trivial | exact r.mono (Pre.add _ _)⟩
    have := SR.cells (xs := xs) (lo := lo) (v := v) S1 hn.2 (fun y hy => by
      obtain ⟨o, cv, g, d, l, r⟩ := hc y (.tail _ hy)
      refine ⟨o, cv, g, d, l, ?_⟩
      revert r
      cases v y <;> cases cv <;> intro r <;> first | exact r.elim | trivial | exact r.mono (Pre.add _ _)) (fun y hy z hz => hd y (.tail _ hy) z (.tail _ hz)) (fun y hy q => by
      rcases List.mem_append.mp q with q | q
      · exact hμ y (.tail _ hy) q
      · exact hd y (.tail _ hy) x (.head _) (fun e => hn.1 (e ▸ hy)) (List.mem_singleton.mp q)) hL hb hx hf
    simpa using this

theorem cellsFrom_at : ∀ {names : List (Str × NameKind)} {k : Nat} {acc : List (Str × Addr)}, (∀ x c, acc.lookup x = some c → c < k) → ∀ x, (cellsFrom k names acc).lookup x = none → acc.lookup x = none ∧ (x, NameKind.cell) ∉ names
  | [], _, acc, _, x, h => ⟨h, by simp⟩
  | (y, kd) :: r, k, acc, ha, x, h => by
    rw [cellsFrom] at h
    split at h
    · rename_i hk
      obtain ⟨h1, h2⟩ := cellsFrom_at (names := r) (fun z c hz => by
        rw [List.lookup_cons] at hz
        split at hz
        · cases hz; exact Nat.lt_succ_self _
        · exact Nat.lt_succ_of_lt (ha z c hz)) x h
      rw [List.lookup_cons] at h1
      split at h1
      · cases h1
      · rename_i hne
        refine ⟨h1, fun q => ?_⟩
        rcases List.mem_cons.mp q with q | q
        · cases q; simp at hne
        · exact h2 q
    · rename_i hk
      obtain ⟨h1, h2⟩ := cellsFrom_at (names := r) ha x h
      refine ⟨h1, fun q => ?_⟩
      rcases List.mem_cons.mp q with q | q
      · cases q; simp at hk
      · exact h2 q

/-- a function of the program and its core text -/
structure FnOk (Z : Cx) (G : Str → Option AV) (a : Addr) (fi : FnI) : Prop where
  ok : ∃ (oc : Value) (od : Option Addr) (osl : Array (Option Value)) (fd : FuncData) (body : List Stmt) (fuel : Nat) (cdefs : List Value),
    Z.K.lookup a = some ⟨oc, od, .func fd, osl⟩ ∧ fd.body = .stmts body ∧ fd.globals = mainGlobals ∧ fd.closure = [] ∧ fd.builtins = builtinsNs ∧
    fd.scope.kind = .function ∧ fd.scope.isCoroutine = false ∧ fd.scope.isGenerator = false ∧ codeIn Z.K fd.code fd.qualname = true ∧ plainParams fd.params = true ∧
    fd.params.args.map (·.arg) = fi.params ∧ fi.names = fd.scope.names ∧ (fd.scope.names.map (·.1)).Nodup ∧ fi.params.Nodup ∧
    (∀ x ∈ fi.params, fd.scope.names.lookup x = some .local ∨ fd.scope.names.lookup x = some .cell) ∧ (∀ p ∈ fd.scope.names, p.2 ≠ .free) ∧
    ((fd.defaults = .none ∧ cdefs = []) ∨ ∃ T o items k, fd.defaults = .ref T ∧ Z.K.lookup T = some o ∧ o.data = .seq items k ∧ items.toList = cdefs) ∧ VRs [] fi.defs cdefs ∧
    cB ⟨fun x => List.lookup x fd.scope.names, G⟩ fuel body = some fi.body
  kp : keepIn Z.K (.ref a) = true
end
end Mini

end

section
set_option autoImplicit false
namespace Mini
open PySem PySem.W PySem.Calls PyProof PyProof.Rows PyProof.V PySem.Spec PySem.SeqAt

section
variable {Z : Cx} {G : Str → Option AV} {Sc : Mini.Sc} {env : Env} {cl : List (Str × Addr)} {γ : List (Str × Nat)} {ρ : Loc} {ex ex' own : List (Addr × Obj)} {fs : List (Addr × Data)} {L L' I : Addr} {m m' : Str → Option Value} {μ : List Addr} {σ : Store} {s : Shared} {A : Around} {E : Value → Shared → Prop} {X : IX} {n i : Nat} {it : It}

theorem SR.enterK {h h' : Heap} (S : SR Z ex fs L m μ σ h) (hn : h'.Ns h.objs.size m') (keep : ∀ b o, h.get? b = some o → h'.get? b = some o) :
    ∃ d, SR Z ex ((L, d) :: fs) h.objs.size m' μ σ h' ∧ ∃ o, h.get? L = some o ∧ o.data = d := by
  obtain ⟨oL, es, ep, hL, hd, hk⟩ := S.fr.ns
  obtain ⟨f1, f2, f3, f4, f5⟩ := SR.fresh (h := h) S
  refine ⟨oL.data, {
    fr := ⟨hn, fun b o e => keep b o (S.fr.keep b o e), Nat.le_trans S.fr.above (Nat.le_of_lt S.fr.ns.lt)⟩
    ex := fun p hp => by
      obtain ⟨x, b, c, d⟩ := S.ex p hp
      exact ⟨keep _ _ x, f4 p hp, c, d⟩
    fs := fun p hp => by
      rcases List.mem_cons.mp hp with rfl | hp
      · refine ⟨⟨oL, keep _ _ hL, rfl⟩, fun q => f2 q.symm, ?_, fun q => (S.own _ q).1 rfl⟩
        cases q : Z.base.get? L with
        | none => rfl
        | some o => exact absurd (Nat.lt_of_lt_of_le (Heap.lt_size q) S.fr.above) (Nat.lt_irrefl _)
      · obtain ⟨⟨o, x, y⟩, b, c, d⟩ := S.fs p hp
        exact ⟨⟨o, keep _ _ x, y⟩, f5 p hp, c, d⟩
    len := S.len
    nodup := S.nodup
    own := fun a ha => ⟨fun q => f1 (q ▸ ha), (S.own a ha).2⟩
    obj := fun n o a e ha => by
      obtain ⟨ob, x, y⟩ := S.obj n o a e ha
      exact ⟨ob, keep _ _ x, y⟩ }, oL, hL, rfl⟩

theorem mem_of_lookup {α : Type} {x : Str} {v : α} : ∀ {l : List (Str × α)}, l.lookup x = some v → (x, v) ∈ l
  | [], h => by cases h
  | (y, w) :: r, h => by
    rw [List.lookup_cons] at h
    split at h
    · rename_i e; cases h; rw [eq_of_beq e]; exact .head _
    · exact .tail _ (mem_of_lookup h)
theorem lookup_of_mem {α : Type} {x : Str} {v : α} : ∀ {l : List (Str × α)}, (l.map (·.1)).Nodup → (x, v) ∈ l → l.lookup x = some v
  | [], _, h => by cases h
  | (y, w) :: r, hn, h => by
    rw [List.map_cons, List.nodup_cons] at hn
    rw [List.lookup_cons]
    rcases List.mem_cons.mp h with q | q
    · cases q; simp
    · have : x ≠ y := fun e => hn.1 (e ▸ List.mem_map.mpr ⟨(x, v), q, rfl⟩)
      have : (x == y) = false := by simpa using this
      rw [this]
      exact lookup_of_mem hn.2 q

theorem keys_filterMap {f : Str → Option Value} : ∀ {params : List Str}, params.Nodup → ((params.filterMap fun n => (f n).map fun v => (n, v)).map (·.1)).Nodup ∧ ∀ x ∈ params.filterMap (fun n => (f n).map fun v => (n, v)), x.1 ∈ params
  | [], _ => ⟨List.nodup_nil, by simp⟩
  | p :: ps, hn => by
    rw [List.nodup_cons] at hn
    obtain ⟨h1, h2⟩ := keys_filterMap (f := f) hn.2
    rw [List.filterMap_cons]
    cases q : f p with
    | none => exact ⟨h1, fun x hx => .tail _ (h2 x hx)⟩
    | some v =>
      refine ⟨?_, fun x hx => ?_⟩
      · show (((p, v) :: _).map (·.1)).Nodup
        rw [List.map_cons, List.nodup_cons]
        refine ⟨fun hm => ?_, h1⟩
        obtain ⟨y, hy, e⟩ := List.mem_map.mp hm
        have e : y.1 = p := e
        have := h2 y hy
        rw [e] at this
        exact hn.1 this
      · rcases List.mem_cons.mp hx with rfl | hx
        · exact .head _
        · exact .tail _ (h2 x hx)

theorem bindG_keys {params : List Str} {defs args : List Value} {kw r : List (Str × Value)} (hn : params.Nodup) (e : bindG params defs args kw = some r) : (r.map (·.1)).Nodup ∧ ∀ x ∈ r, x.1 ∈ params := by
  unfold bindG at e
  obtain ⟨slots, _, e⟩ := Option.bind_eq_some_iff.mp e
  split at e
  · cases e
  · split at e
    · cases e
    · split at e
      · cases e
        exact keys_filterMap hn
      · cases e

theorem pair_apart {l : List (Str × Addr)} (h : l.Pairwise fun x y => x.2 ≠ y.2) {p q : Str × Addr} (hp : p ∈ l) (hq : q ∈ l) (hne : p.1 ≠ q.1) : p.2 ≠ q.2 := by
  obtain ⟨i, hi, rfl⟩ := List.getElem_of_mem hp
  obtain ⟨j, hj, rfl⟩ := List.getElem_of_mem hq
  rcases Nat.lt_trichotomy i j with q | q | q
  · exact List.pairwise_iff_getElem.mp h i j hi hj q
  · subst q; exact absurd rfl hne
  · exact fun e => List.pairwise_iff_getElem.mp h j i hj hi q e.symm

theorem filter_lookup {f : Str → Bool} {x : Str} : ∀ {l : List (Str × AV)}, (l.filter fun p => f p.1).lookup x = if f x then l.lookup x else none
  | [] => by simp
  | (y, v) :: r => by
    rw [List.filter_cons]
    have ih := filter_lookup (f := f) (x := x) (l := r)
    by_cases hy : f y = true
    · rw [if_pos (by simpa using hy), List.lookup_cons, List.lookup_cons, ih]
      cases hx : x == y with
      | true => rw [eq_of_beq hx, if_pos hy, if_pos hy]
      | false => rfl
    · rw [if_neg (by simpa using hy), ih, List.lookup_cons]
      cases hx : x == y with
      | true => rw [eq_of_beq hx, if_neg hy, if_neg hy]
      | false => rfl

theorem fn_call (O : Ok Z G) (XO : XOk Z X n) (hW : X.W ≤ 50000) {a : Addr} {fi : FnI} (F : FnOk Z G a fi) (hr : Room (n + 1) A) {args : List AV} {cargs : List Value} {kw : List (Str × AV)} {ckw : List (Str × Value)} {binds : List (Str × AV)} {Q : Value → Shared → Prop}
    (S : SR Z ex fs L m μ σ s.heap) (ra : VRs μ args cargs) (rk : KVs μ kw ckw) (hb : bindA fi.params fi.defs args kw = some binds)
    (h : Post Z ex fs L m VR μ s Q E (leaveM (Mini.execs X (enterM fi binds σ).1 fi.body (enterM fi binds σ).2.1 (enterM fi binds σ).2.2))) :
    codeAny (model Z.prog Z.w) A (.call (.ref a) ⟨cargs, ckw⟩) (callR Q E) s := by
  obtain ⟨oc, od, osl, fd, body, fuel, cdefs, hK, hbody, hg, hc, hbt, hkd, hco, hgen, hcd, hpl, hpar, hnm, hnd, hpn, hpk, hnf, hdf, hrd, hcB⟩ := F.ok
  have X1 := O.kin.keeps S.fr.keep
  obtain ⟨cb, hcb, rb⟩ := bindG_rel (VRs.mono ⟨μ, rfl⟩ hrd) ra rk hb
  obtain ⟨hk1, hk2⟩ := bindG_keys hpn hcb
  have hcell : ∀ x, (x, NameKind.cell) ∈ fd.scope.names → ((cellsFrom (s.heap.objs.size + 1) fd.scope.names []).lookup x).isSome = true := fun x hx => by
    cases q : (cellsFrom (s.heap.objs.size + 1) fd.scope.names []).lookup x with
    | some c => rfl
    | none => exact absurd hx (cellsFrom_at (fun _ _ h => by cases h) x q).2
  refine codeAny_call_function (by have := hr.d; omega) (X1 _ _ hK) rfl hco hgen hbody (codeRec_of X1 hcd) ?_
  refine bindArgs_snd hpl (cdefs := cdefs) (fun {Q'} hq => ?_) (by rw [hpar]; exact hcb) ?_
  · rcases hdf with ⟨h1, h2⟩ | ⟨T, o, items, k, h1, h2, h3, h4⟩
    · rw [h1]
      refine wpAny_of_eq (a := none) rfl (hq none ?_)
      rw [h2]; rfl
    · rw [h1]
      exact wpAny_seqItems (X1 _ _ h2) h3 (hq _ h4)
  rw [hc]
  refine wpAny_newFunctionEnv_cells hkd (fun x hx => ?_) fun env' he s' x => ?_
  · rcases hpk x.1 (hk2 x hx) with q | q
    · exact .inl q
    · exact .inr ⟨q, hcell _ (mem_of_lookup q)⟩
  subst he
  refine ⟨(O.nolimit.keeps S.fr.keep).keeps x.toInCall.keep, codeAny_func ?_⟩
  obtain ⟨h₁, tk, rfl, _⟩ := x.done
  have keep := x.toInCall.keep
  obtain ⟨d, S1, oL, gL, dL⟩ := S.enterK x.toInCall.ns keep
  have hr' : RoomB n (A.deeper (newEnv fd.scope s.heap.objs.size fd.globals (cellsFrom (s.heap.objs.size + 1) fd.scope.names []) (fd.qualname ++ ".<locals>.") (some a) fd.code none fd.builtins)) := by
    have h1 := hr.h; have h2 := hr.d; have h3 := hr.u
    refine ⟨⟨h1, ?_, ?_⟩, ?_⟩
    · show A.depth + 1 + 4 * n < recursionLimit; omega
    · show A.units + 3 + 20 * n < cLine; omega
    · show A.units + 3 + 16 + 20 * n < cLine; omega
  have hcs : ∀ y ∈ cellNames fi.names, (y, NameKind.cell) ∈ fd.scope.names := fun y hy => by
    unfold cellNames at hy
    obtain ⟨p, hp, rfl⟩ := List.mem_map.mp hy
    rw [List.mem_filter] at hp
    obtain ⟨q1, q2⟩ := p
    have : q2 = .cell := by simpa using hp.2
    subst this
    rw [← hnm]; exact hp.1
  have hcn : (cellNames fi.names).Nodup := by
    unfold cellNames
    rw [hnm]
    exact (hnd.sublist ((List.filter_sublist).map _))
  have hat : ∀ y ∈ cellNames fi.names, ∃ c, (cellsFrom (s.heap.objs.size + 1) fd.scope.names []).lookup y = some c ∧ addrIn (cellsFrom (s.heap.objs.size + 1) fd.scope.names []) y = c := fun y hy => by
    obtain ⟨c, hc⟩ := Option.isSome_iff_exists.mp (hcell y (hcs y hy))
    exact ⟨c, hc, by unfold addrIn; rw [hc]; rfl⟩
  have S2 := S1.cells (cl := cellsFrom (s.heap.objs.size + 1) fd.scope.names []) (lo := s.heap.objs.size) (v := fun y => binds.lookup y) hcn (fun y hy => by
    obtain ⟨c, h1, h2⟩ := hat y hy
    obtain ⟨o, g1, g2⟩ := x.cell y c h1
    rw [h2]
    have hky : (fd.scope.names.lookup y) = some NameKind.cell := lookup_of_mem hnd (hcs y hy)
    refine ⟨o, _, g1, g2, x.above y c (mem_of_lookup h1), ?_⟩
    rw [bindC_nodup hk1, if_neg (by show ¬ fd.scope.names.lookup y = _; rw [hky]; decide)]
    have := lookup_rel (x := y) rb
    revert this
    cases binds.lookup y <;> cases cb.lookup y <;> intro this <;> exact this)
    (fun y hy z hz hne => by
      obtain ⟨c, h1, h2⟩ := hat y hy
      obtain ⟨c', h3, h4⟩ := hat z hz
      rw [h2, h4]
      exact pair_apart x.apart (mem_of_lookup h1) (mem_of_lookup h3) hne)
    (fun y hy q => by
      obtain ⟨c, h1, h2⟩ := hat y hy
      rw [h2] at q
      have := S.lt q
      have := x.above y c (mem_of_lookup h1)
      exact absurd (Nat.lt_trans (S.lt q) this) (Nat.lt_irrefl _))
    (Nat.le_refl _) (Nat.le_trans S.fr.above (Nat.le_of_lt S.fr.ns.lt)) (fun p hp => Nat.le_of_lt (Heap.lt_size (S.ex p hp).1)) (fun p hp => by
      rcases List.mem_cons.mp hp with rfl | hp
      · exact Nat.le_of_lt S.fr.ns.lt
      · obtain ⟨⟨o, g, _⟩, _⟩ := S.fs p hp
        exact Nat.le_of_lt (Heap.lt_size g))
  refine hbl_all O XO hr' hW fuel (Sc := ⟨fun y => List.lookup y fd.scope.names, G⟩) (γ := (enterM fi binds σ).1) (ρ := (enterM fi binds σ).2.1) (cl := cellsFrom (s.heap.objs.size + 1) fd.scope.names []) hcB ⟨⟨hkd, hg, hbt, rfl, rfl, rfl, fun y => .inl rfl, fun y hy => ?_⟩, S2, fun y v e => ?_, fun y k c e e' => ?_⟩ ?_
  · rcases hy with hy | hy
    · exact hcell y (mem_of_lookup hy)
    · exact absurd rfl (hnf _ (mem_of_lookup hy))
  · have e : (binds.filter fun p => !(cellNames fi.names).contains p.1).lookup y = some v := e
    rw [filter_lookup (f := fun y => !(cellNames fi.names).contains y)] at e
    split at e
    · rename_i hnc
      have hl := lookup_rel (x := y) rb
      rw [e] at hl
      cases q : cb.lookup y with
      | none => rw [q] at hl; exact hl.elim
      | some cv =>
        rw [q] at hl
        refine ⟨cv, ?_, hl.mono (Pre.add _ _)⟩
        rw [bindL_nodup hk1]
        have hky : fd.scope.names.lookup y = some NameKind.local := by
          rcases hpk y (hk2 _ (mem_of_lookup q)) with q' | q'
          · exact q'
          · exfalso
            have : y ∈ cellNames fi.names := by
              unfold cellNames
              rw [hnm]
              exact List.mem_map.mpr ⟨(y, .cell), List.mem_filter.mpr ⟨mem_of_lookup q', rfl⟩, rfl⟩
            simp [this] at hnc
        rw [if_pos (by exact hky), q]
    · cases e
  · have e : ((cellNames fi.names).zip ((List.range (cellNames fi.names).length).map (· + σ.length))).lookup y = some k := e
    have hm := mem_of_lookup e
    obtain ⟨j, hj, hje⟩ := List.getElem_of_mem hm
    rw [List.getElem_zip] at hje
    simp at hje hj
    obtain ⟨e1, e2⟩ := hje
    rw [← e2, List.getElem?_append_right (by rw [S.len]; omega)]
    have : j + σ.length - μ.length = j := by rw [S.len]; omega
    rw [this, List.getElem?_map, List.getElem?_eq_getElem hj, Option.map_some, e1]
    unfold addrIn
    rw [e']; rfl
  · have back : ∀ {μ' m' σ' h'}, Pre μ μ' → SR Z ex ((L, d) :: fs) s.heap.objs.size m' μ' σ' h' → SR Z ex fs L m μ' σ' h' := fun {μ' m' σ' h'} p S' => by
      obtain ⟨o, _, S''⟩ := SR.leave (h₀ := s.heap) S' S.fr.ns gL dL S.fr.above (fun p hp => (S.ex p hp).2.1) (fun p hp => (S.fs p hp).2.1)
      exact S''.less
    show PostS Z ex ((L, d) :: fs) s.heap.objs.size _ _ _ _ (Mini.execs X (enterM fi binds σ).1 fi.body (enterM fi binds σ).2.1 (enterM fi binds σ).2.2)
    cases q : Mini.execs X (enterM fi binds σ).1 fi.body (enterM fi binds σ).2.1 (enterM fi binds σ).2.2 with
    | nxt ρ' σ' =>
      rw [q] at h
      exact fun μ' m' h' tk p S' fr => h μ' .none h' tk ((Pre.add _ _).trans p) (back ((Pre.add _ _).trans p) S') rfl
    | ret v ρ' σ' =>
      rw [q] at h
      exact fun μ' m' h' tk cv p S' fr rv => h μ' cv h' tk ((Pre.add _ _).trans p) (back ((Pre.add _ _).trans p) S') rv
    | brk ρ' σ' => rw [q] at h; exact h.elim
    | cont ρ' σ' => rw [q] at h; exact h.elim
    | exc k ρ' σ' => rw [q] at h; exact ExcPost.no h
    | bad => rw [q] at h; exact h.elim
end
end Mini

end

section
set_option autoImplicit false
namespace Mini
open PySem PySem.W PySem.Calls PyProof PyProof.Rows PyProof.V PySem.Spec PySem.SeqAt

structure PrgOk (Z : Cx) (G : Str → Option AV) (P : Prg) : Prop where
  fn : ∀ a fi, P.fn a = some fi → FnOk Z G a fi
  cls : ∀ C ci, P.cls C = some ci → ClsOk Z C ci ∧ keepIn Z.K (.ref C) = true
  W : P.W ≤ 50000

section
variable {Z : Cx} {G : Str → Option AV} {ex ex' own : List (Addr × Obj)} {fs : List (Addr × Data)} {L L' I : Addr} {m m' : Str → Option Value} {μ : List Addr} {σ : Store} {s : Shared} {A : Around} {E : Value → Shared → Prop} {X : IX} {n i : Nat}

theorem xok (O : Ok Z G) {P : Prg} (PO : PrgOk Z G P) : ∀ n, XOk Z ⟨runF P n, P.cls, P.W⟩ n := by
  intro n
  induction n with
  | zero => exact ⟨fun C ci h => (PO.cls C ci h).1, fun _ _ _ _ h => by unfold runF at h; exact h.elim⟩
  | succ n ih =>
    refine ⟨fun C ci h => (PO.cls C ci h).1, ?_⟩
    intro ex fs L m μ σ s A a args cargs kw ckw Q E hr S ra rk h
    have h : Post Z ex fs L m VR μ s Q E (runF P (n + 1) a args kw σ) := h
    unfold runF at h
    cases hf : P.fn a with
    | some fi =>
      rw [hf] at h
      dsimp only at h
      cases hb : bindA fi.params fi.defs args kw with
      | none => rw [hb] at h; exact h.elim
      | some binds =>
        rw [hb] at h
        have F := PO.fn a fi hf
        exact ⟨F.kp, fn_call O ih PO.W F hr S ra rk hb h⟩
    | none =>
      rw [hf] at h
      dsimp only at h
      cases hc : P.cls a with
      | none => rw [hc] at h; exact h.elim
      | some ci =>
        rw [hc] at h
        dsimp only at h
        obtain ⟨CO, hk⟩ := PO.cls a ci hc
        refine ⟨hk, ?_⟩
        have X1 := O.kin.keeps S.fr.keep
        obtain ⟨hh, g, d, t, os⟩ := s
        refine make_core (makes_of X1 CO.mak) (looks_findIn X1 CO.ini) (fun self => bind_fn X1 self (beq_iff_eq.mp CO.inf)) (.inl rfl) ?_
        have S1 := SR.alloc (h := hh) S (o := .attrs []) (ob := emptyDict) rfl ⟨[], 0, rfl, .nil⟩
        have hμ : (μ ++ [hh.objs.size])[σ.length]? = some hh.objs.size := by rw [← S.len]; simp
        have S2 := S1.alloc (o := .inst a σ.length) (ob := instObj a hh.objs.size) rfl ⟨hh.objs.size, rfl, by rw [List.getElem?_append_left (by simp [S.len])]; exact hμ⟩
        have e1 : (hh.push emptyDict).objs.size = hh.objs.size + 1 := Heap.size_push ..
        have hst : σ ++ [AO.attrs []] ++ [AO.inst a σ.length] = σ ++ [AO.attrs [], AO.inst a σ.length] := by simp
        rw [hst] at S2
        have hμ2 : (μ ++ [hh.objs.size] ++ [(hh.push emptyDict).objs.size])[σ.length + 1]? = some (hh.objs.size + 1) := by rw [← S.len, e1]; simp
        have hroom : Room n (A.under (.builtin "type.__call__" ⟨.ref a :: cargs, ckw⟩)) := by
          have h1 := hr.h; have h2 := hr.d; have h3 := hr.u
          refine ⟨h1, ?_, ?_⟩
          · show A.depth + 1 + 4 * n < recursionLimit; omega
          · show A.units + 1 + 20 * n < cLine; omega
        have p2 : Pre μ (μ ++ [hh.objs.size] ++ [(hh.push emptyDict).objs.size]) := ⟨_, List.append_assoc ..⟩
        have := ih.call (s := { heap := (hh.push emptyDict).push (instObj a hh.objs.size), gens := g, drawn := d, toks := t, os := os }) (a := ci.init) (args := .obj (σ.length + 1) :: args) (cargs := .ref (hh.objs.size + 1) :: cargs) (kw := kw) (ckw := ckw)
          (Q := fun v s' => v = .none ∧ Q (.ref (hh.objs.size + 1)) s') (E := E) hroom S2 (.cons ⟨_, hμ2, rfl⟩ (VRs.mono p2 ra)) (KVs.mono p2 rk) ?_
        · exact codeAny_mono this.2 fun r s' z => by rcases r with e | (v | _ | _ | _) <;> exact z
        · show Post _ _ _ _ _ _ _ _ _ _ (runF P n ci.init (.obj (σ.length + 1) :: args) kw (σ ++ [.attrs [], .inst a σ.length]))
          cases q : runF P n ci.init (.obj (σ.length + 1) :: args) kw (σ ++ [.attrs [], .inst a σ.length]) with
          | bad => rw [q] at h; exact h
          | exc k σ' => rw [q] at h; exact ExcPost.no h
          | ok r σ' =>
            rw [q] at h
            intro μ' b h' tk p S' rb
            simp only [RE.bind] at h
            split at h
            · cases rb
              exact ⟨rfl, h μ' (.ref (hh.objs.size + 1)) h' tk (p2.trans p) S' ⟨_, p.get hμ2, rfl⟩⟩
            · exact h.elim
end
end Mini

end

section
set_option autoImplicit false
namespace Mini
open PySem PySem.W PySem.Calls PyProof PyProof.Rows PyProof.V PySem.Spec PySem.SeqAt

def globIn (K : Frag) (x : Str) : Option AV := match nsIn K mainGlobals x with
  | some (some v) => some (.fix v)
  | some none => if x == ("__name__" : Str) then none else (bootBuiltins x).map .fix
  | none => none

/-- a default as plain data -/
def litV : Value → Option AV
  | .none => some .none
  | .bool b => some (.bool b)
  | .int i _ => some (.int i)
  | _ => none
def defsIn (K : Frag) (v : Value) : Option (List AV × List Value) := match v with
  | .none => some ([], [])
  | .ref T => match K.lookup T with
    | some ⟨_, _, .seq items _, _⟩ => (items.toList.mapM litV).map fun l => (l, items.toList)
    | _ => none
  | _ => none
def fnFine (K : Frag) (a : Addr) (fd : FuncData) : Bool :=
  fd.globals == mainGlobals && fd.closure.isEmpty && fd.builtins == builtinsNs && fd.scope.kind == .function && !fd.scope.isCoroutine && !fd.scope.isGenerator && codeIn K fd.code fd.qualname && plainParams fd.params &&
  decide (fd.scope.names.map (·.1)).Nodup && decide (fd.params.args.map (·.arg)).Nodup && (fd.params.args.map (·.arg)).all (fun x => List.lookup x fd.scope.names == some .local || List.lookup x fd.scope.names == some .cell) &&
  fd.scope.names.all (fun p => p.2 != .free) && keepIn K (.ref a)
def fnAt (K : Frag) (a : Addr) : Option FnI := match K.lookup a with
  | some ⟨_, _, .func fd, _⟩ => if fnFine K a fd then (match fd.body with
    | .stmts b => (cB ⟨fun x => List.lookup x fd.scope.names, globIn K⟩ 300 b).bind fun cb => (defsIn K fd.defaults).map fun ds => { params := fd.params.args.map (·.arg), defs := ds.1, names := fd.scope.names, body := cb }
    | _ => none) else none
  | _ => none

theorem mapM_rel {l : List Value} {r : List AV} (h : l.mapM litV = some r) : VRs [] r l := by
  induction l generalizing r with
  | nil => cases h; exact .nil
  | cons v l ih =>
    rw [List.mapM_cons] at h
    cases hv : litV v with
    | none => rw [hv] at h; cases h
    | some a =>
      rw [hv] at h
      cases hl : l.mapM litV with
      | none => rw [hl] at h; cases h
      | some t =>
        rw [hl] at h
        cases h
        refine .cons ?_ (ih hl)
        unfold litV at hv
        split at hv <;> cases hv
        · rfl
        · rfl
        · exact ⟨_, rfl⟩

theorem fnAt_ok {Z : Cx} {a : Addr} {fi : FnI} (h : fnAt Z.K a = some fi) : FnOk Z (globIn Z.K) a fi := by
  unfold fnAt at h
  split at h
  · rename_i oc od fd osl hK
    split at h
    · rename_i hf
      split at h
      · rename_i b hb
        obtain ⟨cb, hcb, h⟩ := Option.bind_eq_some_iff.mp h
        obtain ⟨ds, hds, rfl⟩ := Option.map_eq_some_iff.mp h
        unfold fnFine at hf
        simp only [Bool.and_eq_true, beq_iff_eq, List.isEmpty_iff, Bool.not_eq_true', decide_eq_true_eq, List.all_eq_true, Bool.or_eq_true, bne_iff_ne, ne_eq] at hf
        obtain ⟨⟨⟨⟨⟨⟨⟨⟨⟨⟨⟨⟨h1, h2⟩, h3⟩, h4⟩, h5⟩, h6⟩, h7⟩, h8⟩, h9⟩, h10⟩, h11⟩, h12⟩, h13⟩ := hf
        refine ⟨⟨oc, od, osl, fd, b, 300, ds.2, hK, hb, h1, h2, h3, h4, h5, h6, h7, h8, rfl, rfl, h9, h10, h11, h12, ?_, ?_, hcb⟩, h13⟩
        · unfold defsIn at hds
          split at hds
          · rename_i hd; cases hds; exact .inl ⟨hd, rfl⟩
          · rename_i T hd
            split at hds
            · rename_i oc' od' items k osl' hT
              obtain ⟨l, _, rfl⟩ := Option.map_eq_some_iff.mp hds
              exact .inr ⟨T, _, items, k, hd, hT, rfl, rfl⟩
            · cases hds
          · cases hds
        · unfold defsIn at hds
          split at hds
          · cases hds; exact .nil
          · split at hds
            · obtain ⟨l, hl, rfl⟩ := Option.map_eq_some_iff.mp hds
              exact mapM_rel hl
            · cases hds
          · cases hds
      · cases h
    · cases h
  · cases h

/-- a class of the program, as far as the given names go -/
def propAt (K : Frag) (C : Addr) (x : Str) : Option (Addr × Addr) := match findIn K (.ref C) x with
  | some (some (.ref p)) => if specialIn K (.ref p) "__get__" == some (some (.builtin "property.__get__")) && takesIn K (.ref p) == some true && typeIn K (.ref p) == some (.type "property") then (match recIn K p "property" with
    | some (.ref g :: .ref t :: _) => some (g, t)
    | _ => none) else none
  | _ => none
def methAt (K : Frag) (C : Addr) (x : Str) : Option Addr := match findIn K (.ref C) x with
  | some (some (.ref f)) => if isFn K (.ref f) && keepIn K (.ref f) then some f else none
  | _ => none
def clsFine (K : Frag) (C : Addr) : Bool :=
  plainGet K C "" && hasDictIn K C && findIn K (.ref C) "__setattr__" == some (some (.builtin "object.__setattr__")) && plainOver K C && makesIn K C && notFirst K C (.ref C) && keepIn K (.ref C)
def clsAt (K : Frag) (names : List Str) (C : Addr) : Option ClsI := match K.lookup C with
  | some ⟨_, _, .cls _, _⟩ => if clsFine K C then (match findIn K (.ref C) "__init__" with
    | some (some (.ref f)) => if isFn K (.ref f) then some { init := f, attrs := (names.filter fun x => findIn K (.ref C) x == some none), meths := (names.filterMap fun x => (methAt K C x).map fun f => (x, f)), props := (names.filterMap fun x => (propAt K C x).map fun p => (x, p)) } else none
    | _ => none) else none
  | _ => none

theorem lookup_filterMap {α : Type} {f : Str → Option α} {x : Str} {v : α} : ∀ {l : List Str}, (l.filterMap fun x => (f x).map fun p => (x, p)).lookup x = some v → f x = some v
  | [], h => by cases h
  | y :: r, h => by
    rw [List.filterMap_cons] at h
    cases hy : f y with
    | none => rw [hy] at h; exact lookup_filterMap (l := r) h
    | some w =>
      rw [hy] at h
      have h : List.lookup x ((y, w) :: (r.filterMap fun x => (f x).map fun p => (x, p))) = some v := h
      rw [List.lookup_cons] at h
      split at h
      · rename_i e; cases h; rw [eq_of_beq e]; exact hy
      · exact lookup_filterMap (l := r) h

theorem clsAt_ok {Z : Cx} {names : List Str} {C : Addr} {ci : ClsI} (h : clsAt Z.K names C = some ci) : ClsOk Z C ci ∧ keepIn Z.K (.ref C) = true := by
  unfold clsAt at h
  split at h
  · split at h
    · rename_i hf
      split at h
      · rename_i f hi
        split at h
        · rename_i hfn
          cases h
          unfold clsFine at hf
          simp only [Bool.and_eq_true, beq_iff_eq] at hf
          obtain ⟨⟨⟨⟨⟨⟨h1, h2⟩, h3⟩, h4⟩, h5⟩, h6⟩, h7⟩ := hf
          refine ⟨{ pg := fun _ => h1, hd := h2, sa := h3, po := h4, mak := h5, nf := h6, ini := hi, inf := hfn, attr := fun x hx => ?_, meth := fun x g hx => ?_, prop := fun x g t hx => ?_ }, h7⟩
          · rw [List.contains_iff_mem, List.mem_filter] at hx
            exact eq_of_beq hx.2
          · have := lookup_filterMap hx
            unfold methAt at this
            split at this
            · rename_i f' hf'
              split at this
              · rename_i q
                cases this
                rw [Bool.and_eq_true] at q
                exact ⟨hf', q.1, q.2⟩
              · cases this
            · cases this
          · have := lookup_filterMap hx
            unfold propAt at this
            split at this
            · rename_i p hp
              split at this
              · rename_i q
                simp only [Bool.and_eq_true, beq_iff_eq] at q
                split at this
                · rename_i g' t' rest hr
                  cases this
                  exact ⟨p, rest, hp, q.1.1, q.1.2, q.2, hr⟩
                · cases this
              · cases this
            · cases this
        · cases h
      · cases h
    · cases h
  · cases h

def prgIn (K : Frag) (names : List Str) : Prg := { fn := fnAt K, cls := clsAt K names, W := 50000 }
theorem prgIn_ok {Z : Cx} (names : List Str) : PrgOk Z (globIn Z.K) (prgIn Z.K names) where
  fn := fun _ _ h => fnAt_ok h
  cls := fun _ _ h => clsAt_ok h
  W := Nat.le_refl _

theorem ok_of {Z : Cx} {p : Program} {loose : List Str} {mg mb : Str → Option Value} (X : Z.K.In Z.base) (T : TopRead p loose mg mb Z.base) : Ok Z (globIn Z.K) where
  kin := X
  nolimit := T.nolimit
  glob := fun x v h => by
    unfold globIn at h
    split at h
    · rename_i w hw
      cases h
      exact ⟨w, mg, mb, rfl, T.g, .inl (mg_of X T.g hw)⟩
    · rename_i hw
      split at h
      · cases h
      · rename_i hn
        obtain ⟨w, hb, rfl⟩ := Option.map_eq_some_iff.mp h
        exact ⟨w, mg, mb, rfl, T.g, .inr ⟨mg_none_of X T.g hw, T.b, (T.builtins x (by simpa using hn)).trans hb⟩⟩
    · cases h
end Mini

end

section
set_option autoImplicit false
namespace Mini
open PySem PySem.W PySem.Calls PyProof PyProof.Rows PyProof.V PySem.Spec PySem.SeqAt

/-- the state before any frame -/
structure SR0 (Z : Cx) (μ : List Addr) (σ : Store) (h : Heap) : Prop where
  keep : ∀ b o, Z.base.get? b = some o → h.get? b = some o
  size : Z.base.objs.size ≤ h.objs.size
  len : μ.length = σ.length
  nodup : μ.Nodup
  own : ∀ a ∈ μ, Z.base.get? a = none ∧ 1 < a
  obj : ∀ (n : Nat) (o : AO) (a : Addr), σ[n]? = some o → μ[n]? = some a → ∃ ob, h.get? a = some ob ∧ OR μ o ob

section
variable {Z : Cx} {G : Str → Option AV} {m' : Str → Option Value} {μ : List Addr} {σ : Store} {s : Shared} {A : Around} {X : IX} {n : Nat}

theorem SR0.lt {h : Heap} (S : SR0 Z μ σ h) {a : Addr} (ha : a ∈ μ) : a < h.objs.size := by
  obtain ⟨n, hn, rfl⟩ := List.getElem_of_mem ha
  have hn' : n < σ.length := S.len ▸ hn
  obtain ⟨ob, x, _⟩ := S.obj n σ[n] μ[n] (by simp [hn']) (by simp [hn])
  exact Heap.lt_size x
theorem SR0.enter {h h' : Heap} (S : SR0 Z μ σ h) (hn : h'.Ns h.objs.size m') (keep : ∀ b o, h.get? b = some o → h'.get? b = some o) : SR Z [] [] h.objs.size m' μ σ h' where
  fr := ⟨hn, fun b o e => keep b o (S.keep b o e), S.size⟩
  ex := fun p hp => by cases hp
  fs := fun p hp => by cases hp
  len := S.len
  nodup := S.nodup
  own := fun a ha => ⟨Nat.ne_of_lt (S.lt ha), S.own a ha⟩
  obj := fun n o a e ha => by
    obtain ⟨ob, x, y⟩ := S.obj n o a e ha
    exact ⟨ob, keep _ _ x, y⟩

theorem fn_top (O : Ok Z G) (XO : XOk Z X n) (hW : X.W ≤ 50000) {a : Addr} {fi : FnI} (F : FnOk Z G a fi) (hr : Room (n + 1) A) {args : List AV} {cargs : List Value} {binds : List (Str × AV)} {v : AV} {σ' : Store} {R : Result → Shared → Prop}
    (S : SR0 Z μ σ s.heap) (ra : VRs μ args cargs) (hb : bindA fi.params fi.defs args [] = some binds)
    (he : leaveM (Mini.execs X (enterM fi binds σ).1 fi.body (enterM fi binds σ).2.1 (enterM fi binds σ).2.2) = .ok v σ')
    (hR : ∀ L m μ' h' tk cv, Pre μ μ' → SR Z [] [] L m μ' σ' h' → VR μ' v cv → R (.ok (.ret cv)) { s with heap := h', toks := tk }) :
    codeAny (model Z.prog Z.w) A (.call (.ref a) ⟨cargs, []⟩) R s := by
  obtain ⟨oc, od, osl, fd, body, fuel, cdefs, hK, hbody, hg, hc, hbt, hkd, hco, hgen, hcd, hpl, hpar, hnm, hnd, hpn, hpk, hnf, hdf, hrd, hcB⟩ := F.ok
  have X1 := O.kin.keeps S.keep
  obtain ⟨cb, hcb, rb⟩ := bindG_rel (VRs.mono ⟨μ, rfl⟩ hrd) ra (ckw := []) .nil hb
  obtain ⟨hk1, hk2⟩ := bindG_keys hpn hcb
  have hcell : ∀ x, (x, NameKind.cell) ∈ fd.scope.names → ((cellsFrom (s.heap.objs.size + 1) fd.scope.names []).lookup x).isSome = true := fun x hx => by
    cases q : (cellsFrom (s.heap.objs.size + 1) fd.scope.names []).lookup x with
    | some c => rfl
    | none => exact absurd hx (cellsFrom_at (fun _ _ h => by cases h) x q).2
  refine codeAny_call_function (by have := hr.d; omega) (X1 _ _ hK) rfl hco hgen hbody (codeRec_of X1 hcd) ?_
  refine bindArgs_snd hpl (cdefs := cdefs) (fun {Q'} hq => ?_) (by rw [hpar]; exact hcb) ?_
  · rcases hdf with ⟨h1, h2⟩ | ⟨T, o, items, k, h1, h2, h3, h4⟩
    · rw [h1]
      refine wpAny_of_eq (a := none) rfl (hq none ?_)
      rw [h2]; rfl
    · rw [h1]
      exact wpAny_seqItems (X1 _ _ h2) h3 (hq _ h4)
  rw [hc]
  refine wpAny_newFunctionEnv_cells hkd (fun x hx => ?_) fun env' he s' x => ?_
  · rcases hpk x.1 (hk2 x hx) with q | q
    · exact .inl q
    · exact .inr ⟨q, hcell _ (mem_of_lookup q)⟩
  subst he
  refine ⟨(O.nolimit.keeps S.keep).keeps x.toInCall.keep, codeAny_func ?_⟩
  obtain ⟨h₁, tk, rfl, _⟩ := x.done
  have keep := x.toInCall.keep
  have S1 := S.enter x.toInCall.ns keep
  have hr' : RoomB n (A.deeper (newEnv fd.scope s.heap.objs.size fd.globals (cellsFrom (s.heap.objs.size + 1) fd.scope.names []) (fd.qualname ++ ".<locals>.") (some a) fd.code none fd.builtins)) := by
    have h1 := hr.h; have h2 := hr.d; have h3 := hr.u
    refine ⟨⟨h1, ?_, ?_⟩, ?_⟩
    · show A.depth + 1 + 4 * n < recursionLimit; omega
    · show A.units + 3 + 20 * n < cLine; omega
    · show A.units + 3 + 16 + 20 * n < cLine; omega
  have hcs : ∀ y ∈ cellNames fi.names, (y, NameKind.cell) ∈ fd.scope.names := fun y hy => by
    unfold cellNames at hy
    obtain ⟨p, hp, rfl⟩ := List.mem_map.mp hy
    rw [List.mem_filter] at hp
    obtain ⟨q1, q2⟩ := p
    have : q2 = .cell := by simpa using hp.2
    subst this
    rw [← hnm]; exact hp.1
  have hcn : (cellNames fi.names).Nodup := by
    unfold cellNames
    rw [hnm]
    exact (hnd.sublist ((List.filter_sublist).map _))
  have hat : ∀ y ∈ cellNames fi.names, ∃ c, (cellsFrom (s.heap.objs.size + 1) fd.scope.names []).lookup y = some c ∧ addrIn (cellsFrom (s.heap.objs.size + 1) fd.scope.names []) y = c := fun y hy => by
    obtain ⟨c, hc⟩ := Option.isSome_iff_exists.mp (hcell y (hcs y hy))
    exact ⟨c, hc, by unfold addrIn; rw [hc]; rfl⟩
  have S2 := S1.cells (cl := cellsFrom (s.heap.objs.size + 1) fd.scope.names []) (lo := s.heap.objs.size) (v := fun y => binds.lookup y) hcn (fun y hy => by
    obtain ⟨c, h1, h2⟩ := hat y hy
    obtain ⟨o, g1, g2⟩ := x.cell y c h1
    rw [h2]
    have hky : (fd.scope.names.lookup y) = some NameKind.cell := lookup_of_mem hnd (hcs y hy)
    refine ⟨o, _, g1, g2, x.above y c (mem_of_lookup h1), ?_⟩
    rw [bindC_nodup hk1, if_neg (by show ¬ fd.scope.names.lookup y = _; rw [hky]; decide)]
    have := lookup_rel (x := y) rb
    revert this
    cases binds.lookup y <;> cases cb.lookup y <;> intro this <;> exact this)
    (fun y hy z hz hne => by
      obtain ⟨c, h1, h2⟩ := hat y hy
      obtain ⟨c', h3, h4⟩ := hat z hz
      rw [h2, h4]
      exact pair_apart x.apart (mem_of_lookup h1) (mem_of_lookup h3) hne)
    (fun y hy q => by
      obtain ⟨c, h1, h2⟩ := hat y hy
      rw [h2] at q
      have := x.above y c (mem_of_lookup h1)
      exact absurd (Nat.lt_trans (S.lt q) this) (Nat.lt_irrefl _))
    (Nat.le_refl _) S.size (fun p hp => by cases hp) (fun p hp => by cases hp)
  refine hbl_all O XO hr' hW fuel (Sc := ⟨fun y => List.lookup y fd.scope.names, G⟩) (γ := (enterM fi binds σ).1) (ρ := (enterM fi binds σ).2.1) (cl := cellsFrom (s.heap.objs.size + 1) fd.scope.names []) hcB ⟨⟨hkd, hg, hbt, rfl, rfl, rfl, fun y => .inl rfl, fun y hy => ?_⟩, S2, fun y v e => ?_, fun y k c e e' => ?_⟩ ?_
  · rcases hy with hy | hy
    · exact hcell y (mem_of_lookup hy)
    · exact absurd rfl (hnf _ (mem_of_lookup hy))
  · have e : (binds.filter fun p => !(cellNames fi.names).contains p.1).lookup y = some v := e
    rw [filter_lookup (f := fun y => !(cellNames fi.names).contains y)] at e
    split at e
    · rename_i hnc
      have hl := lookup_rel (x := y) rb
      rw [e] at hl
      cases q : cb.lookup y with
      | none => rw [q] at hl; exact hl.elim
      | some cv =>
        rw [q] at hl
        refine ⟨cv, ?_, hl.mono (Pre.add _ _)⟩
        rw [bindL_nodup hk1]
        have hky : fd.scope.names.lookup y = some NameKind.local := by
          rcases hpk y (hk2 _ (mem_of_lookup q)) with q' | q'
          · exact q'
          · exfalso
            have : y ∈ cellNames fi.names := by
              unfold cellNames
              rw [hnm]
              exact List.mem_map.mpr ⟨(y, .cell), List.mem_filter.mpr ⟨mem_of_lookup q', rfl⟩, rfl⟩
            simp [this] at hnc
        rw [if_pos (by exact hky), q]
    · cases e
  · have e : ((cellNames fi.names).zip ((List.range (cellNames fi.names).length).map (· + σ.length))).lookup y = some k := e
    have hm := mem_of_lookup e
    obtain ⟨j, hj, hje⟩ := List.getElem_of_mem hm
    rw [List.getElem_zip] at hje
    simp at hje hj
    obtain ⟨e1, e2⟩ := hje
    rw [← e2, List.getElem?_append_right (by rw [S.len]; omega)]
    have : j + σ.length - μ.length = j := by rw [S.len]; omega
    rw [this, List.getElem?_map, List.getElem?_eq_getElem hj, Option.map_some, e1]
    unfold addrIn
    rw [e']; rfl
  · show PostS Z [] [] s.heap.objs.size _ _ _ _ (Mini.execs X (enterM fi binds σ).1 fi.body (enterM fi binds σ).2.1 (enterM fi binds σ).2.2)
    cases q : Mini.execs X (enterM fi binds σ).1 fi.body (enterM fi binds σ).2.1 (enterM fi binds σ).2.2 with
    | nxt ρ' σ1 =>
      rw [q] at he
      cases he
      exact fun μ' m' h' tk p S' fr => hR _ _ μ' h' tk .none ((Pre.add _ _).trans p) S' rfl
    | ret v' ρ' σ1 =>
      rw [q] at he
      cases he
      exact fun μ' m' h' tk cv p S' fr rv => hR _ _ μ' h' tk cv ((Pre.add _ _).trans p) S' rv
    | brk ρ' σ' => rw [q] at he; cases he
    | cont ρ' σ' => rw [q] at he; cases he
    | exc k ρ' σ' => rw [q] at he; cases he
    | bad => rw [q] at he; cases he

def noLists (K : Frag) : Bool := K.all fun p => p.2.cls != .type "list"
theorem noLists_at {K : Frag} (h : noLists K = true) {a : Addr} {o : Obj} (e : K.lookup a = some o) : o.cls ≠ .type "list" := by
  have : ∀ (l : Frag), l.lookup a = some o → (a, o) ∈ l := by
    intro l
    induction l with
    | nil => intro h; cases h
    | cons p r ih =>
      intro h
      obtain ⟨b, x⟩ := p
      rw [List.lookup_cons] at h
      split at h
      · rename_i e; cases h; rw [eq_of_beq e]; exact .head _
      · exact .tail _ (ih h)
  have hm := this K e
  unfold noLists at h
  rw [List.all_eq_true] at h
  have := h _ hm
  simpa using this

theorem Ns.hide {h : Heap} {l a : Addr} {items : Array Value} {m : Str → Option Value} (hl : h.IsList l items) (hn : h.Ns a m) : (h.hide l).Ns a m := by
  obtain ⟨o, es, ep, g, d, r⟩ := hn
  obtain ⟨o', g', c', k', d'⟩ := hl
  refine ⟨o, es, ep, ?_, d, r⟩
  rw [Heap.hide_ne h]
  · exact g
  · rintro rfl
    rw [g] at g'; cases g'
    rw [d] at d'; cases d'

theorem intsAre_rel {vs : List Value} {ns : List Int} (h : IntsAre vs ns) : VRs μ (ns.map AV.int) vs := by
  induction h with
  | nil => exact .nil
  | cons n t _ ih => exact .cons ⟨t, rfl⟩ ih
theorem ne_of_ns {h : Heap} {l a : Addr} {items : Array Value} {m : Str → Option Value} (hl : h.IsList l items) (hn : h.Ns a m) : a ≠ l := by
  obtain ⟨o, es, ep, g, d, r⟩ := hn
  obtain ⟨o', g', c', k', d'⟩ := hl
  rintro rfl
  rw [g] at g'; cases g'
  rw [d] at d'; cases d'

/-- the mini interpreter speaks for the call of the law -/
theorem law_top {prog : Program} {w : World} {K : Frag} {names : List Str} {s : Shared} {a l : Addr} {vs : List Value} {ns : List Int} {p : Program} {loose : List Str} {mg mb : Str → Option Value} {n : Nat} {R : Result → Shared → Prop}
    (X : K.In s.heap) (T : TopRead p loose mg mb s.heap) (hone : ∃ mm, s.heap.Ns sysModules mm) (hK : noLists K = true) (hl : s.heap.IsList l vs.toArray) (hi : IntsAre vs ns) (hlen : ns.length ≤ 63) (hr : Room (n + 1) callerA)
    (hrun : ∀ o, ∃ σ', runF (prgIn K names) (n + 1) a [.obj 0] [] [.rol (ns.map .int) o] = .ok (.bool true) σ' ∧ σ'[0]? = some (.rol (ns.map .int) o))
    (hfn : ((prgIn K names).fn a).isSome = true)
    (hR : ∀ h' tk, (∀ b o, s.heap.get? b = some o → h'.get? b = some o) → R (.ok (.ret (.bool true))) { s with heap := h', toks := tk }) :
    codeAny (model prog w) callerA (.call (.ref a) ⟨[.ref l], []⟩) R s := by
  obtain ⟨ol, gl, cl, kl, dl⟩ := hl
  have hl : s.heap.IsList l vs.toArray := ⟨ol, gl, cl, kl, dl⟩
  have hne : ∀ b o, b ≠ l → s.heap.get? b = some o → (s.heap.hide l).get? b = some o := fun b o h e => (Heap.hide_ne s.heap h).trans e
  have hsz := Heap.hide_size s.heap l
  let Z : Cx := ⟨prog, w, s.heap.hide l, K, prgIn K names, by rw [hsz]; exact Nat.lt_of_le_of_lt (by decide) (Heap.Ns.lt T.nolimit.choose_spec.1)⟩
  have XB : K.In (s.heap.hide l) := fun b o e => hne b o (fun q => by
    have g := X b o e
    subst q
    rw [g] at gl; cases gl
    exact noLists_at hK e cl) (X b o e)
  have TB : TopRead p loose mg mb (s.heap.hide l) := ⟨Ns.hide hl T.g, Ns.hide hl T.b, by obtain ⟨mc, h1, h2⟩ := T.nolimit; exact ⟨mc, Ns.hide hl h1, h2⟩, T.builtins, T.free⟩
  have O : Ok Z (globIn K) := ok_of (Z := Z) XB TB
  have PO : PrgOk Z (globIn K) (prgIn K names) := prgIn_ok (Z := Z) names
  obtain ⟨fi, hfi⟩ := Option.isSome_iff_exists.mp hfn
  obtain ⟨σ', hrun, h0⟩ := hrun ol
  have S : SR0 Z [l] [.rol (ns.map .int) ol] s.heap := {
    keep := fun b o e => by
      by_cases h : b = l
      · subst h; rw [Heap.hide_self] at e; cases e
      · exact (Heap.hide_ne s.heap h).symm.trans e
    size := Nat.le_of_eq hsz
    len := rfl
    nodup := by simp
    own := fun b hb => by
      rw [List.mem_singleton.mp hb]
      refine ⟨Heap.hide_self .., ?_⟩
      obtain ⟨mm, h1⟩ := hone
      have n0 : (0 : Nat) ≠ l := ne_of_ns hl T.b
      have n1 : (1 : Nat) ≠ l := ne_of_ns hl h1
      show (1 : Nat) < l
      have : ∀ x : Nat, 0 ≠ x → 1 ≠ x → 1 < x := fun x a b => by omega
      exact this l n0 n1
    obj := fun k o b e e' => by
      cases k with
      | succ k => simp at e
      | zero =>
        simp at e e'
        subst e e'
        refine ⟨ol, gl, rfl, by rw [List.length_map, lim_small]; omega, vs.toArray, kl, cl, dl, ?_⟩
        simpa using intsAre_rel hi }
  unfold runF at hrun
  rw [hfi] at hrun
  dsimp only at hrun
  cases hb : bindA fi.params fi.defs [.obj 0] [] with
  | none => rw [hb] at hrun; cases hrun
  | some binds =>
    rw [hb] at hrun
    refine fn_top (Z := Z) O (xok O PO n) (Nat.le_refl _) (PO.fn a fi hfi) hr S (show VRs [l] [.obj 0] [.ref l] from .cons ⟨l, rfl, rfl⟩ .nil) hb hrun fun L m μ' h' tk cv pp S' rv => ?_
    cases rv
    refine hR h' tk fun b o e => ?_
    by_cases h : b = l
    · subst h
      rw [gl] at e; cases e
      obtain ⟨ob, g, r⟩ := S'.at' h0 (pp.get (i := 0) rfl)
      rw [g, r.1]
    · exact S'.fr.keep b o (hne b o h e)
end
theorem goodW_true {c : ClaimW} {cl : Str → Option Addr} {mean : ExcName → Option Value} {args : List WData} {s₁ : Shared} {h' : Heap} {tk : Nat} (k : ∀ b o, s₁.heap.get? b = some o → h'.get? b = some o) (hg : s₁.gens = #[])
    (hn : ∀ cls, c.raises args cls = false) (hp : c.post args (.bool true) args = true) : GoodW c cl mean args s₁ (.ok (.ret (.bool true))) { s₁ with heap := h', toks := tk } :=
  ⟨.inl ⟨.bool true, .bool true, [], rfl, hn, .bool true, hp, unshared_nil⟩, k, rfl, hg⟩

def lawIn (K : Frag) (x : Str) : Addr := match nsIn K mainGlobals x with
  | some (some (.ref a)) => a
  | _ => 0
theorem lawIn_at {K : Frag} {x : Str} {h : Heap} {mg : Str → Option Value} {a : Addr} (X : K.In h) (hn : h.Ns mainGlobals mg) (e : ((nsIn K mainGlobals x).bind id).isSome = true) (hm : mg x = some (.ref a)) : a = lawIn K x := by
  unfold lawIn
  cases q : nsIn K mainGlobals x with
  | none => rw [q] at e; cases e
  | some o =>
    cases o with
    | none => rw [q] at e; cases e
    | some v =>
      have := mg_of X hn q
      rw [hm] at this
      cases this
      rfl
end Mini

end

section
set_option autoImplicit false
namespace Mini
open PySem

/-! a small Hoare logic for the mini interpreter -/
def W {α : Type} (r : RE α) (Q : α → Store → Prop) : Prop := match r with
  | .ok a σ => Q a σ
  | _ => False
structure KS where
  nxt : Loc → Store → Prop
  brk : Loc → Store → Prop
  cont : Loc → Store → Prop
  ret : AV → Store → Prop
def WS (r : RS) (K : KS) : Prop := match r with
  | .nxt ρ σ => K.nxt ρ σ
  | .brk ρ σ => K.brk ρ σ
  | .cont ρ σ => K.cont ρ σ
  | .ret v _ σ => K.ret v σ
  | _ => False

section
variable {α β : Type} {X : IX} {γ : List (Str × Nat)} {ρ : Loc} {σ : Store} {Q : AV → Store → Prop} {K : KS}

theorem W.ok {a : α} {Q : α → Store → Prop} (h : Q a σ) : W (.ok a σ) Q := h
theorem W.bind {r : RE α} {f : α → Store → RE β} {Q : β → Store → Prop} (h : W r fun a σ => W (f a σ) Q) : W (r.bind f) Q := by
  cases r with
  | ok a σ => exact h
  | exc k σ => exact h.elim
  | bad => exact h.elim
theorem W.mono {r : RE α} {Q Q' : α → Store → Prop} (h : W r Q) (k : ∀ a σ, Q a σ → Q' a σ) : W r Q' := by
  cases r with
  | ok a σ => exact k _ _ h
  | exc k σ => exact h.elim
  | bad => exact h.elim
theorem W.eq {r : RE α} {Q : α → Store → Prop} (h : W r Q) : ∃ a σ', r = .ok a σ' ∧ Q a σ' := by
  cases r with
  | ok a σ => exact ⟨a, σ, rfl, h⟩
  | exc k σ => exact h.elim
  | bad => exact h.elim
theorem W.of_eq {r : RE α} {a : α} {Q : α → Store → Prop} (e : r = .ok a σ) (h : Q a σ) : W r Q := by rw [e]; exact h
theorem W.lift {o : Option α} {a : α} {Q : α → Store → Prop} (e : o = some a) (h : Q a σ) : W (Mini.lift o σ) Q := by rw [e]; exact h
theorem WS.then' {r : RE α} {f : α → Store → RS} (h : W r fun a σ => WS (f a σ) K) : WS (r.then ρ f) K := by
  cases r with
  | ok a σ => exact h
  | exc k σ => exact h.elim
  | bad => exact h.elim
theorem WS.mono {r : RS} {K' : KS} (h : WS r K) (h1 : ∀ ρ σ, K.nxt ρ σ → K'.nxt ρ σ) (h2 : ∀ ρ σ, K.brk ρ σ → K'.brk ρ σ) (h3 : ∀ ρ σ, K.cont ρ σ → K'.cont ρ σ) (h4 : ∀ v σ, K.ret v σ → K'.ret v σ) : WS r K' := by
  cases r with
  | nxt ρ σ => exact h1 _ _ h
  | brk ρ σ => exact h2 _ _ h
  | cont ρ σ => exact h3 _ _ h
  | ret v ρ σ => exact h4 _ _ h
  | exc k ρ σ => exact h.elim
  | bad => exact h.elim

/-! expressions -/
theorem w_cst {v : AV} (h : Q v σ) : W (evalE X γ ρ (.cst v) σ) Q := by rw [evalE]; exact h
theorem w_loc {x : Str} {v : AV} (e : ρ.lookup x = some v) (h : Q v σ) : W (evalE X γ ρ (.loc x) σ) Q := by rw [evalE, e]; exact h
theorem w_cel {x : Str} {v : AV} (e : celM γ x σ = some v) (h : Q v σ) : W (evalE X γ ρ (.cel x) σ) Q := by rw [evalE, e]; exact h
theorem w_bin {op : Operator} {a b : CE} (h : W (evalE X γ ρ a σ) fun v σ => W (evalE X γ ρ b σ) fun w σ => W (binM op v w σ) Q) : W (evalE X γ ρ (.bin op a b) σ) Q := by
  rw [evalE]; exact W.bind (W.mono h fun v σ h => W.bind h)
theorem w_not {a : CE} (h : W (evalE X γ ρ a σ) fun v σ => ∃ b, truthy σ v = some b ∧ Q (.bool (!b)) σ) : W (evalE X γ ρ (.not a) σ) Q := by
  rw [evalE]; exact W.bind (W.mono h fun v σ ⟨b, e, h⟩ => W.bind (W.lift e h))
theorem w_neg {a : CE} (h : W (evalE X γ ρ a σ) fun v σ => ∃ i, v = .int i ∧ Q (.int (-i)) σ) : W (evalE X γ ρ (.neg a) σ) Q := by
  rw [evalE]; exact W.bind (W.mono h fun v σ ⟨i, e, h⟩ => by subst e; exact h)
theorem w_cmp {a : CE} {ops : List CmpOp} {es : CL} (h : W (evalE X γ ρ a σ) fun v σ => W (evalC X γ ρ v ops es σ) Q) : W (evalE X γ ρ (.cmp a ops es) σ) Q := by
  rw [evalE]; exact W.bind h
theorem w_cmp1 {v : AV} {op : CmpOp} {e : CE} (h : W (evalE X γ ρ e σ) fun w σ => W (cmpM X op v w σ) Q) : W (evalC X γ ρ v [op] (.cons e .nil) σ) Q := by
  rw [evalC]; exact W.bind h
theorem w_attr {a : CE} {x : Str} (h : W (evalE X γ ρ a σ) fun v σ => W (getAttrM X v x σ) Q) : W (evalE X γ ρ (.attr a x) σ) Q := by
  rw [evalE]; exact W.bind h
theorem w_sub {a i : CE} (h : W (evalE X γ ρ a σ) fun v σ => W (evalE X γ ρ i σ) fun w σ => W (getItemM v w σ) Q) : W (evalE X γ ρ (.sub a i) σ) Q := by
  rw [evalE]; exact W.bind (W.mono h fun v σ h => W.bind h)
theorem w_list {es : CL} (h : W (evalL X γ ρ es σ) fun vs σ => W (allocL vs σ) Q) : W (evalE X γ ρ (.list es) σ) Q := by
  rw [evalE]; exact W.bind h
theorem w_tup {es : CL} (h : W (evalL X γ ρ es σ) fun vs σ => vs.length < lim ∧ Q (.obj σ.length) (σ ++ [.tup vs])) : W (evalE X γ ρ (.tup es) σ) Q := by
  rw [evalE]; exact W.bind (W.mono h fun v σ ⟨l, h⟩ => by rw [if_pos l]; exact h)
theorem w_call {f : CE} {es kv : CL} {kn : List Str} (h : W (evalE X γ ρ f σ) fun f σ => W (evalL X γ ρ es σ) fun vs σ => W (evalL X γ ρ kv σ) fun ks σ => W (callM X f vs (kn.zip ks) σ) Q) : W (evalE X γ ρ (.call f es kn kv) σ) Q := by
  rw [evalE]; exact W.bind (W.mono h fun _ _ h => W.bind (W.mono h fun _ _ h => W.bind h))
theorem w_meth {o : CE} {x : Str} {es kv : CL} {kn : List Str} (h : W (evalE X γ ρ o σ) fun o σ => ∃ f, findM X o x σ = some f ∧ W (evalL X γ ρ es σ) fun vs σ => W (evalL X γ ρ kv σ) fun ks σ => W (methM X f o x vs (kn.zip ks) σ) Q) : W (evalE X γ ρ (.meth o x es kn kv) σ) Q := by
  rw [evalE]; exact W.bind (W.mono h fun _ _ ⟨f, e, h⟩ => W.bind (W.lift e (W.bind (W.mono h fun _ _ h => W.bind h))))
theorem w_nil {Q : List AV → Store → Prop} (h : Q [] σ) : W (evalL X γ ρ .nil σ) Q := by rw [evalL]; exact h
theorem w_cons {e : CE} {r : CL} {Q : List AV → Store → Prop} (h : W (evalE X γ ρ e σ) fun v σ => W (evalL X γ ρ r σ) fun vs σ => Q (v :: vs) σ) : W (evalL X γ ρ (.cons e r) σ) Q := by
  rw [evalL]; exact W.bind (W.mono h fun _ _ h => W.bind (W.mono h fun _ _ h => h))
theorem w_truth {c : CE} {Q : Bool → Store → Prop} (h : W (evalE X γ ρ c σ) fun v σ => ∃ b, truthy σ v = some b ∧ Q b σ) : W (evalT X γ ρ c σ) Q := by
  unfold evalT; exact W.bind (W.mono h fun _ _ ⟨b, e, h⟩ => W.lift e h)

/-! statements -/
theorem s_nil (h : K.nxt ρ σ) : WS (execs X γ .nil ρ σ) K := by rw [execs]; exact h
theorem s_cons {s : CS} {r : CB} (h : WS (exec X γ s ρ σ) { K with nxt := fun ρ σ => WS (execs X γ r ρ σ) K }) : WS (execs X γ (.cons s r) ρ σ) K := by
  rw [execs]
  cases q : exec X γ s ρ σ with
  | nxt ρ σ => rw [q] at h; exact h
  | brk ρ σ => rw [q] at h; exact h
  | cont ρ σ => rw [q] at h; exact h
  | ret v ρ σ => rw [q] at h; exact h
  | exc k ρ σ => rw [q] at h; exact h.elim
  | bad => rw [q] at h; exact h.elim
theorem s_expr {e : CE} (h : W (evalE X γ ρ e σ) fun _ σ => K.nxt ρ σ) : WS (exec X γ (.expr e) ρ σ) K := by rw [exec]; exact WS.then' h
theorem s_ret {e : CE} (h : W (evalE X γ ρ e σ) K.ret) : WS (exec X γ (.ret e) ρ σ) K := by rw [exec]; exact WS.then' h
theorem s_brk (h : K.brk ρ σ) : WS (exec X γ .brk ρ σ) K := by rw [exec]; exact h
theorem s_cont (h : K.cont ρ σ) : WS (exec X γ .cont ρ σ) K := by rw [exec]; exact h
theorem s_asg {t : CT} {e : CE} (h : W (evalE X γ ρ e σ) fun v σ => W (assignT X γ ρ t v σ) fun ρ σ => K.nxt ρ σ) : WS (exec X γ (.asg (.cons t .nil) e) ρ σ) K := by
  rw [exec]; exact WS.then' (W.mono h fun _ _ h => WS.then' h)
theorem s_ite {c : CE} {a b : CB} (h : W (evalT X γ ρ c σ) fun v σ => if v then WS (execs X γ a ρ σ) K else WS (execs X γ b ρ σ) K) : WS (exec X γ (.ite c a b) ρ σ) K := by
  rw [exec]; exact WS.then' (W.mono h fun v _ h => by cases v <;> exact h)
theorem s_while {c : CE} {b : CB} (I : Nat → Loc → Store → Prop) (hI : ∀ n ρ σ, I n ρ σ → W (evalT X γ ρ c σ) fun v σ => if v then WS (execs X γ b ρ σ) { nxt := fun ρ σ => ∃ k, k < n ∧ I k ρ σ, cont := fun ρ σ => ∃ k, k < n ∧ I k ρ σ, brk := K.nxt, ret := K.ret } else K.nxt ρ σ)
    {n : Nat} (hn : n < X.W) (h : I n ρ σ) : WS (exec X γ (.whil c b) ρ σ) K := by
  rw [exec]
  have : ∀ w n ρ σ, n < w → I n ρ σ → WS (loopW (fun ρ σ => evalT X γ ρ c σ) (fun ρ σ => execs X γ b ρ σ) w ρ σ) K := by
    intro w
    induction w with
    | zero => intro n _ _ h; exact absurd h (Nat.not_lt_zero _)
    | succ w ih =>
      intro n ρ σ hw h
      rw [loopW]
      refine WS.then' (W.mono (hI n ρ σ h) fun v σ h => ?_)
      cases v with
      | false => exact h
      | true =>
        simp only [if_true] at h ⊢
        cases q : execs X γ b ρ σ with
        | nxt ρ' σ' => rw [q] at h; obtain ⟨k, hk, h⟩ := h; exact ih k ρ' σ' (Nat.lt_of_lt_of_le hk (Nat.le_of_lt_succ hw)) h
        | cont ρ' σ' => rw [q] at h; obtain ⟨k, hk, h⟩ := h; exact ih k ρ' σ' (Nat.lt_of_lt_of_le hk (Nat.le_of_lt_succ hw)) h
        | brk ρ' σ' => rw [q] at h; exact h
        | ret v ρ' σ' => rw [q] at h; exact h
        | exc k ρ' σ' => rw [q] at h; exact h.elim
        | bad => rw [q] at h; exact h.elim
  exact this X.W n ρ σ hn h
end
end Mini

end

section
set_option autoImplicit false
namespace Mini
open PySem PySem.W PyProof.Rows

theorem kasRun_bind {α β : Type} {lt : Nat → Nat → Bool} {f : α → KasT β} : ∀ (t : KasT α), kasRun lt (t.bind f) = kasRun lt (f (kasRun lt t))
  | .ret _ => rfl
  | .ask i j k => by
    show kasRun lt ((k (lt i j)).bind f) = _
    rw [kasRun_bind (k (lt i j))]; rfl

section
variable {n : Nat} {lt : Nat → Nat → Bool}
/-- a strict order on the places below n -/
structure Ord (n : Nat) (lt : Nat → Nat → Bool) : Prop where
  asym : ∀ i j, i < n → j < n → lt i j = true → lt j i = false
  trans : ∀ i j k, i < n → j < n → k < n → lt i j = true → lt j k = true → lt i k = true
  total : ∀ i j, i < n → j < n → i ≠ j → lt i j = false → lt j i = true
structure PP (n : Nat) (p : Array Nat) : Prop where
  size : p.size = n
  lt : ∀ i, i < n → p.getD i 0 < n
  inj : ∀ i j, i < n → j < n → p.getD i 0 = p.getD j 0 → i = j
def SS (lt : Nat → Nat → Bool) (p : Array Nat) (m : Nat) : Prop := ∀ i j, i < j → j < m → lt (p.getD i 0) (p.getD j 0) = true
def DD (lt : Nat → Nat → Bool) (p : Array Nat) (m : Nat) : Prop := ∀ i j, i < j → j < m → lt (p.getD j 0) (p.getD i 0) = true

theorem getD_get {p : Array Nat} {i : Nat} : p.getD i 0 = (p[i]?).getD 0 := by
  rw [Array.getD_eq_getD_getElem?]

theorem run_asc {p : Array Nat} (O : Ord n lt) (P : PP n p) : ∀ (f m : Nat), 1 ≤ m → m + f ≤ n → SS lt p m →
    SS lt p (kasRun lt (kas_asc p f m)) ∧ m ≤ kasRun lt (kas_asc p f m) ∧ kasRun lt (kas_asc p f m) ≤ m + f ∧ (kasRun lt (kas_asc p f m) = m → f = 0 ∨ lt (p.getD m 0) (p.getD (m - 1) 0) = true)
  | 0, m, _, _, h => ⟨h, Nat.le_refl _, Nat.le_refl _, fun _ => .inl rfl⟩
  | f + 1, m, h1, h2, h => by
    show SS lt p (kasRun lt (if lt (p.getD m 0) (p.getD (m - 1) 0) = true then .ret m else kas_asc p f (m + 1))) ∧ _ ≤ kasRun lt (if lt (p.getD m 0) (p.getD (m - 1) 0) = true then .ret m else kas_asc p f (m + 1)) ∧ kasRun lt (if lt (p.getD m 0) (p.getD (m - 1) 0) = true then .ret m else kas_asc p f (m + 1)) ≤ _ ∧ (kasRun lt (if lt (p.getD m 0) (p.getD (m - 1) 0) = true then .ret m else kas_asc p f (m + 1)) = _ → _)
    by_cases c : lt (p.getD m 0) (p.getD (m - 1) 0) = true
    · rw [if_pos c]
      exact ⟨h, Nat.le_refl _, Nat.le_add_right _ _, fun _ => .inr c⟩
    · rw [if_neg c]
      have hs : SS lt p (m + 1) := by
        intro i j hij hj
        by_cases hjm : j < m
        · exact h i j hij hjm
        · have : j = m := by omega
          subst this
          have q : lt (p.getD (j - 1) 0) (p.getD j 0) = true := O.total _ _ (P.lt _ (by omega)) (P.lt _ (by omega)) (fun e => by have := P.inj _ _ (by omega) (by omega) e; omega) (by simpa using c)
          by_cases hi : i = j - 1
          · rw [hi]; exact q
          · exact O.trans _ _ _ (P.lt _ (by omega)) (P.lt _ (by omega)) (P.lt _ (by omega)) (h i (j - 1) (by omega) (by omega)) q
      obtain ⟨a, b, c', _⟩ := run_asc O P f (m + 1) (by omega) (by omega) hs
      exact ⟨a, by omega, by omega, fun e => by omega⟩

theorem run_desc {p : Array Nat} (O : Ord n lt) (P : PP n p) : ∀ (f m : Nat), 1 ≤ m → m + f ≤ n → DD lt p m →
    ∃ r, kasRun lt (kas_desc f p m 0) = (p, r, 0) ∧ DD lt p r ∧ m ≤ r ∧ r ≤ m + f
  | 0, m, _, _, h => ⟨m, rfl, h, Nat.le_refl _, Nat.le_refl _⟩
  | f + 1, m, h1, h2, h => by
    by_cases c : lt (p.getD m 0) (p.getD (m - 1) 0) = true
    · have hd : DD lt p (m + 1) := by
        intro i j hij hj
        by_cases hjm : j < m
        · exact h i j hij hjm
        · have : j = m := by omega
          subst this
          by_cases hi : i = j - 1
          · rw [hi]; exact c
          · exact O.trans _ _ _ (P.lt _ (by omega)) (P.lt _ (by omega)) (P.lt _ (by omega)) c (h i (j - 1) (by omega) (by omega))
      obtain ⟨r, e, a, b, c'⟩ := run_desc O P f (m + 1) (by omega) (by omega) hd
      refine ⟨r, ?_, a, by omega, by omega⟩
      rw [← e]
      show kasRun lt (if lt (p.getD m 0) (p.getD (m - 1) 0) = true then (if (0 : Nat) > 0 then _ else kas_desc f p (m + 1) 0) else _) = _
      rw [if_pos c, if_neg (by omega)]
    · refine ⟨m, ?_, h, Nat.le_refl _, by omega⟩
      have q : lt (p.getD (m - 1) 0) (p.getD m 0) = true := O.total _ _ (P.lt _ (by omega)) (P.lt _ (by omega)) (fun e => by have := P.inj _ _ (by omega) (by omega) e; omega) (by simpa using c)
      show kasRun lt (if lt (p.getD m 0) (p.getD (m - 1) 0) = true then _ else .ask (p.getD (m - 1) 0) (p.getD m 0) fun d => if d = true then .ret (p, m, 0) else kas_desc f p (m + 1) (0 + 1)) = _
      rw [if_neg c]
      show kasRun lt (if lt (p.getD (m - 1) 0) (p.getD m 0) = true then .ret (p, m, 0) else kas_desc f p (m + 1) (0 + 1)) = _
      rw [if_pos q]; rfl

theorem rev_get {p : Array Nat} {j : Nat} (hj : j ≤ p.size) (k : Nat) : (kas_rev p 0 j).getD k 0 = if k < j then p.getD (j - 1 - k) 0 else p.getD k 0 := by
  rw [getD_get, kas_rev, getElem?_mirror_all hj]
  by_cases h : k < j
  · rw [if_pos ⟨Nat.zero_le _, h⟩, if_pos h, getD_get, Nat.zero_add]
  · rw [if_neg (fun q => h q.2), if_neg h, getD_get]
theorem rev_pp {p : Array Nat} {j : Nat} (P : PP n p) (hj : j ≤ n) : PP n (kas_rev p 0 j) := by
  have hj' : j ≤ p.size := by rw [P.size]; exact hj
  refine ⟨by rw [kas_rev, mirror_size]; exact P.size, fun i hi => ?_, fun a b ha hb e => ?_⟩
  · rw [rev_get hj']
    split
    · exact P.lt _ (by omega)
    · exact P.lt _ hi
  · rw [rev_get hj', rev_get hj'] at e
    split at e <;> split at e
    · have := P.inj _ _ (by omega) (by omega) e; omega
    · have := P.inj _ _ (by omega) (by omega) e; omega
    · have := P.inj _ _ (by omega) (by omega) e; omega
    · exact P.inj _ _ ha hb e
theorem rev_ss {p : Array Nat} {j : Nat} (P : PP n p) (hj : j ≤ n) (h : DD lt p j) : SS lt (kas_rev p 0 j) j := by
  have hj' : j ≤ p.size := by rw [P.size]; exact hj
  intro a b hab hb
  rw [rev_get hj', rev_get hj', if_pos (by omega), if_pos hb]
  exact h _ _ (by omega) (by omega)

theorem run_place {p : Array Nat} {k : Nat} (O : Ord n lt) (P : PP n p) (hk : k < n) (S : SS lt p k) : ∀ (f l r : Nat), l ≤ r → r ≤ k → r - l ≤ f →
    (∀ i, i < l → lt (p.getD i 0) (p.getD k 0) = true) → (∀ i, r ≤ i → i < k → lt (p.getD k 0) (p.getD i 0) = true) →
    kasRun lt (kas_place p k f l r) ≤ k ∧ (∀ i, i < kasRun lt (kas_place p k f l r) → lt (p.getD i 0) (p.getD k 0) = true) ∧ (∀ i, kasRun lt (kas_place p k f l r) ≤ i → i < k → lt (p.getD k 0) (p.getD i 0) = true)
  | 0, l, r, h1, h2, h3, ha, hb => by
    have : l = r := by omega
    subst this
    exact ⟨h2, ha, hb⟩
  | f + 1, l, r, h1, h2, h3, ha, hb => by
    unfold kas_place
    by_cases e : l ≥ r
    · have : l = r := by omega
      subst this
      rw [if_pos e]
      exact ⟨h2, ha, hb⟩
    · rw [if_neg e]
      show kasRun lt (if lt (p.getD k 0) (p.getD ((l + r) / 2) 0) = true then kas_place p k f l ((l + r) / 2) else kas_place p k f ((l + r) / 2 + 1) r) ≤ k ∧ (∀ i, i < kasRun lt (if lt (p.getD k 0) (p.getD ((l + r) / 2) 0) = true then kas_place p k f l ((l + r) / 2) else kas_place p k f ((l + r) / 2 + 1) r) → _) ∧ (∀ i, kasRun lt (if lt (p.getD k 0) (p.getD ((l + r) / 2) 0) = true then kas_place p k f l ((l + r) / 2) else kas_place p k f ((l + r) / 2 + 1) r) ≤ i → _)
      by_cases c : lt (p.getD k 0) (p.getD ((l + r) / 2) 0) = true
      · rw [if_pos c]
        refine run_place O P hk S f l ((l + r) / 2) (by omega) (by omega) (by omega) ha fun i hi hik => ?_
        by_cases hh : i = (l + r) / 2
        · rw [hh]; exact c
        · exact O.trans _ _ _ (P.lt _ hk) (P.lt _ (by omega)) (P.lt _ (by omega)) c (S _ _ (by omega) hik)
      · rw [if_neg c]
        have q : lt (p.getD ((l + r) / 2) 0) (p.getD k 0) = true := O.total _ _ (P.lt _ hk) (P.lt _ (by omega)) (fun e => by have := P.inj _ _ hk (by omega) e; omega) (by simpa using c)
        refine run_place O P hk S f ((l + r) / 2 + 1) r (by omega) h2 (by omega) (fun i hi => ?_) hb
        by_cases hh : i = (l + r) / 2
        · rw [hh]; exact q
        · exact O.trans _ _ _ (P.lt _ (by omega)) (P.lt _ (by omega)) (P.lt _ hk) (S _ _ (by omega) (by omega)) q

def bix (k l i : Nat) : Nat := if i = l then k else if l < i ∧ i ≤ k then i - 1 else i
theorem bub_get {p : Array Nat} {k l : Nat} (hk : k < p.size) (hl : l ≤ k) (i : Nat) : (bubble p k (k - l)).getD i 0 = p.getD (bix k l i) 0 := by
  rw [getD_get, getElem?_bubble hk _ (by omega), show k - (k - l) = l by omega, getD_get]
  unfold bix
  by_cases h1 : i = l
  · rw [if_pos h1, if_pos h1]
  · rw [if_neg h1, if_neg h1]
    by_cases h2 : l < i ∧ i ≤ k
    · rw [if_pos h2, if_pos h2]
    · rw [if_neg h2, if_neg h2]
theorem bix_cases (k l i : Nat) : (i = l ∧ bix k l i = k) ∨ (l < i ∧ i ≤ k ∧ bix k l i = i - 1) ∨ (i ≠ l ∧ ¬(l < i ∧ i ≤ k) ∧ bix k l i = i) := by
  unfold bix
  by_cases h1 : i = l
  · rw [if_pos h1]; exact .inl ⟨h1, rfl⟩
  · rw [if_neg h1]
    by_cases h2 : l < i ∧ i ≤ k
    · rw [if_pos h2]; exact .inr (.inl ⟨h2.1, h2.2, rfl⟩)
    · rw [if_neg h2]; exact .inr (.inr ⟨h1, h2, rfl⟩)

theorem run_bin (O : Ord n lt) : ∀ (f : Nat) (p : Array Nat) (k : Nat), PP n p → k + f = n → SS lt p k → PP n (kasRun lt (kas_bin f p k)) ∧ SS lt (kasRun lt (kas_bin f p k)) n
  | 0, p, k, P, e, S => by
    have : k = n := by omega
    subst this
    exact ⟨P, S⟩
  | f + 1, p, k, P, e, S => by
    have hk : k < n := by omega
    have hk' : k < p.size := by rw [P.size]; exact hk
    unfold kas_bin
    rw [kasRun_bind]
    obtain ⟨h1, h2, h3⟩ := run_place O P hk S k 0 k (Nat.zero_le _) (Nat.le_refl _) (by omega) (fun i hi => by omega) (fun i hi hi' => by omega)
    generalize kasRun lt (kas_place p k k 0 k) = l at h1 h2 h3 ⊢
    refine run_bin O f _ (k + 1) ⟨by rw [bubble_size]; exact P.size, fun i hi => ?_, fun a b ha hb e => ?_⟩ (by omega) fun a b hab hb => ?_
    · rw [bub_get hk' h1]
      refine P.lt _ ?_
      rcases bix_cases k l i with h | h | h <;> omega
    · rw [bub_get hk' h1, bub_get hk' h1] at e
      have e := P.inj _ _ (by rcases bix_cases k l a with h | h | h <;> omega) (by rcases bix_cases k l b with h | h | h <;> omega) e
      rcases bix_cases k l a with h | h | h <;> rcases bix_cases k l b with h' | h' | h' <;> omega
    · rw [bub_get hk' h1, bub_get hk' h1]
      rcases bix_cases k l a with h | h | h <;> rcases bix_cases k l b with h' | h' | h'
      · omega
      · rw [h.2, h'.2.2]; exact h3 _ (by omega) (by omega)
      · omega
      · omega
      · rw [h.2.2, h'.2.2]; exact S _ _ (by omega) (by omega)
      · omega
      · rw [h.2.2, h'.2]; exact h2 _ (by omega)
      · rw [h.2.2, h'.2.2]; exact S _ _ (by omega) (by omega)
      · rw [h.2.2, h'.2.2]; exact S _ _ (by omega) (by omega)

theorem run_sort (O : Ord n lt) (h2 : 2 ≤ n) : PP n (kasRun lt (kas_sort n)) ∧ SS lt (kasRun lt (kas_sort n)) n := by
  have P : PP n (List.range n).toArray := by
    have g : ∀ i, i < n → (List.range n).toArray.getD i 0 = i := fun i hi => by
      rw [getD_get, List.getElem?_toArray, List.getElem?_range hi]; rfl
    exact ⟨by simp, fun i hi => by rw [g i hi]; exact hi, fun i j hi hj e => by rw [g i hi, g j hj] at e; exact e⟩
  have count : ∃ m p, kasRun lt (kas_count n (List.range n).toArray) = (m, p) ∧ PP n p ∧ SS lt p m ∧ 1 ≤ m ∧ m ≤ n := by
    generalize (List.range n).toArray = p at P
    unfold kas_count
    rw [kasRun_bind]
    obtain ⟨a1, a2, a3, a4⟩ := run_asc O P (n - 1) 1 (Nat.le_refl _) (by omega) (fun i j h1 h2 => by omega)
    generalize kasRun lt (kas_asc p (n - 1) 1) = m at a1 a2 a3 a4
    by_cases c : m = n
    · rw [if_pos (by rw [c]; exact beq_self_eq_true n)]
      exact ⟨m, p, by rw [c]; rfl, P, a1, by omega, by omega⟩
    · rw [if_neg (by simpa using c)]
      by_cases d : m > 1
      · rw [if_pos d]
        refine ⟨m, p, ?_, P, a1, by omega, by omega⟩
        show kasRun lt (if lt (p.getD 0 0) (p.getD (m - 1) 0) = true then .ret (m, p) else _) = _
        rw [if_pos (a1 0 (m - 1) (by omega) (by omega))]; rfl
      · rw [if_neg d]
        have : m = 1 := by omega
        subst this
        unfold kas_descPart
        rw [kasRun_bind]
        have q : lt (p.getD 1 0) (p.getD 0 0) = true := (a4 rfl).resolve_left (by omega)
        obtain ⟨r, e, b1, b2, b3⟩ := run_desc O P (n - (1 + 1)) (1 + 1) (by omega) (by omega) (fun i j h1 h2 => by
          have hi : i = 0 := by omega
          have hj : j = 1 := by omega
          subst hi; subst hj; exact q)
        rw [e]
        show ∃ m p', kasRun lt (kas_tail3 r n p) = (m, p') ∧ _
        unfold kas_tail3
        rw [kasRun_bind]
        have P' := rev_pp P (j := r) (by omega)
        obtain ⟨c1, c2, c3, _⟩ := run_asc O P' (n - r) r (by omega) (by omega) (rev_ss P (by omega) b1)
        exact ⟨_, _, rfl, P', c1, by omega, by omega⟩
  obtain ⟨m, p, e, P', S, h1, h2'⟩ := count
  unfold kas_sort
  rw [kasRun_bind, e]
  show PP n (kasRun lt (if m < n then kas_bin (n - max m 1) p (max m 1) else .ret p)) ∧ SS lt (kasRun lt (if m < n then kas_bin (n - max m 1) p (max m 1) else .ret p)) n
  by_cases c : m < n
  · rw [if_pos c, show max m 1 = m by omega]
    exact run_bin O _ _ _ P' (by omega) S
  · rw [if_neg c]
    have : m = n := by omega
    subst this
    exact ⟨P', S⟩
end
end Mini

end

section
set_option autoImplicit false
namespace Mini
open PySem PySem.W PyProof.Rows

theorem sortIdx_perm {n : Nat} {lt : Nat → Nat → Bool} : (sortIdx n lt).Perm (List.range n) := by
  unfold sortIdx
  split
  · exact List.Perm.refl _
  · exact (kasRun_perm (lt := lt) (asks_sort (n := n) (by omega))).toList
theorem sortIdx_sorted {n : Nat} {lt : Nat → Nat → Bool} (O : Ord n lt) : (sortIdx n lt).Pairwise fun i j => lt i j = true := by
  unfold sortIdx
  split
  · rename_i h
    match n, h with
    | 0, _ => exact .nil
    | 1, _ => exact .cons (fun _ h => by cases h) .nil
  · rename_i h
    obtain ⟨P, S⟩ := run_sort O (by omega)
    refine List.pairwise_iff_getElem.mpr fun i j hi hj hij => ?_
    have := S i j hij (by rw [← P.size]; exact hj)
    rw [getD_get, getD_get] at this
    rw [Array.length_toList] at hi hj
    rw [Array.getElem?_eq_getElem hi, Array.getElem?_eq_getElem hj] at this
    simpa using this

theorem mapM_int (xs : List Int) : (xs.map AV.int).mapM intOf = some xs := by
  induction xs with
  | nil => rfl
  | cons x xs ih => rw [List.map_cons, List.mapM_cons, ih]; rfl

theorem sortA_ints {σ : Store} {xs : List Int} (hd : xs.Nodup) (h : xs.length < 64) :
    ∃ ys : List Int, sortA σ (xs.map .int) = some (ys.map .int) ∧ ys.Perm xs ∧ ys.Pairwise (· < ·) := by
  have key : ∀ i j, i < xs.length → j < xs.length → lexLt ((xs.map fun i => [i]).getD i []) ((xs.map fun i => [i]).getD j []) = decide (xs.getD i 0 < xs.getD j 0) := by
    intro i j hi hj
    have e : ∀ i, i < xs.length → (xs.map fun i => [i]).getD i [] = [xs.getD i 0] := fun i hi => by
      simp [List.getD_eq_getElem?_getD, hi]
    rw [e i hi, e j hj]
    show (if xs.getD i 0 == xs.getD j 0 then false else decide (xs.getD i 0 < xs.getD j 0)) = _
    split
    · rename_i h; rw [beq_iff_eq] at h; rw [h]; simp
    · rfl
  have inj : ∀ i j, i < xs.length → j < xs.length → xs.getD i 0 = xs.getD j 0 → i = j := by
    intro i j hi hj e
    have e1 : xs.getD i 0 = xs[i] := by simp [hi]
    have e2 : xs.getD j 0 = xs[j] := by simp [hj]
    rw [e1, e2] at e
    rcases Nat.lt_trichotomy i j with h | h | h
    · exact absurd e (List.pairwise_iff_getElem.mp hd i j hi hj h)
    · exact h
    · exact absurd e.symm (List.pairwise_iff_getElem.mp hd j i hj hi h)
  have O : Ord xs.length fun i j => lexLt ((xs.map fun i => [i]).getD i []) ((xs.map fun i => [i]).getD j []) := by
    refine ⟨fun i j hi hj h => ?_, fun i j k hi hj hk h h' => ?_, fun i j hi hj ne h => ?_⟩
    · rw [key i j hi hj] at h; rw [key j i hj hi]; simp at h ⊢; omega
    · rw [key i j hi hj] at h; rw [key j k hj hk] at h'; rw [key i k hi hk]; simp at h h' ⊢; omega
    · rw [key i j hi hj] at h; rw [key j i hj hi]; simp at h ⊢
      have : xs.getD i 0 ≠ xs.getD j 0 := fun e => ne (inj i j hi hj e)
      simp at this; omega
  refine ⟨(sortIdx xs.length fun i j => lexLt ((xs.map fun i => [i]).getD i []) ((xs.map fun i => [i]).getD j [])).map fun i => xs.getD i 0, ?_, ?_, ?_⟩
  · unfold sortA
    rw [List.length_map, if_pos h, sortKeys, mapM_int]
    simp only [Option.map_some, Option.some.injEq, List.map_map]
    refine List.map_congr_left fun i hi => ?_
    have := sortIdx_lt i hi
    simp [List.getD_eq_getElem?_getD, this]
  · refine (sortIdx_perm.map _).trans ?_
    rw [show (List.range xs.length).map (fun i => xs.getD i 0) = xs from ?_]
    refine List.ext_getElem (by simp) fun i h1 h2 => by simp [h2]
  · rw [List.pairwise_map]
    refine (sortIdx_sorted O).imp_of_mem fun {i j} hi hj h => ?_
    rw [key i j (sortIdx_lt i hi) (sortIdx_lt j hj)] at h
    simpa using h
end Mini

end

section
set_option autoImplicit false
namespace Mini
open PySem PySem.W PyProof.Rows

theorem mapM_some' {α β : Type} {f : α → Option β} {g : α → β} : ∀ {l : List α}, (∀ x ∈ l, f x = some (g x)) → l.mapM f = some (l.map g)
  | [], _ => rfl
  | x :: l, h => by rw [List.mapM_cons, h x (.head _), mapM_some' (l := l) fun y hy => h y (.tail _ hy)]; rfl

/-- pairs of ints, told apart by their firsts -/
theorem sortA_pairs {σ : Store} {ps : List (Nat × Int × Int)} (hs : ∀ p ∈ ps, σ[p.1]? = some (.tup [.int p.2.1, .int p.2.2])) (hd : (ps.map (·.2.1)).Nodup) (h : ps.length < 64) :
    ∃ qs : List (Nat × Int × Int), sortA σ (ps.map fun p => .obj p.1) = some (qs.map fun p => .obj p.1) ∧ qs.Perm ps ∧ qs.Pairwise fun p q => p.2.1 < q.2.1 := by
  have keys : sortKeys σ (ps.map fun p => .obj p.1) = some (ps.map fun p => [p.2.1, p.2.2]) := by
    unfold sortKeys
    cases ps with
    | nil => rfl
    | cons p ps =>
      have e : ((p :: ps).map fun p => AV.obj p.1).mapM intOf = none := by rw [List.map_cons, List.mapM_cons]; rfl
      rw [e]
      have e2 : ((p :: ps).map fun p => AV.obj p.1).mapM (tupInts σ) = some ((p :: ps).map fun p => [p.2.1, p.2.2]) := by
        rw [List.mapM_map]
        refine mapM_some' fun q hq => ?_
        show tupInts σ (.obj q.1) = _
        simp only [tupInts, hs q hq]; rfl
      rw [e2]
      have e3 : (((p :: ps).map fun p => [p.2.1, p.2.2]).all fun k => k.length == (((p :: ps).map fun p => [p.2.1, p.2.2]).headD []).length && k.length != 0) = true := by
        rw [List.all_eq_true]
        intro k hk
        obtain ⟨q, _, rfl⟩ := List.mem_map.mp hk
        rfl
      show (if _ then _ else _) = _
      rw [if_pos e3]
  have get : ∀ i, i < ps.length → (ps.map fun p => [p.2.1, p.2.2]).getD i [] = [(ps.getD i (0, 0, 0)).2.1, (ps.getD i (0, 0, 0)).2.2] := fun i hi => by
    simp [List.getD_eq_getElem?_getD, hi]
  have inj : ∀ i j, i < ps.length → j < ps.length → (ps.getD i (0, 0, 0)).2.1 = (ps.getD j (0, 0, 0)).2.1 → i = j := by
    intro i j hi hj e
    have e1 : ps.getD i (0, 0, 0) = ps[i] := by simp [hi]
    have e2 : ps.getD j (0, 0, 0) = ps[j] := by simp [hj]
    rw [e1, e2] at e
    rcases Nat.lt_trichotomy i j with h | h | h
    · have := List.pairwise_iff_getElem.mp hd i j (by simpa using hi) (by simpa using hj) h
      simp at this; exact absurd e this
    · exact h
    · have := List.pairwise_iff_getElem.mp hd j i (by simpa using hj) (by simpa using hi) h
      simp at this; exact absurd e.symm this
  have key : ∀ i j, i < ps.length → j < ps.length → i ≠ j → lexLt ((ps.map fun p => [p.2.1, p.2.2]).getD i []) ((ps.map fun p => [p.2.1, p.2.2]).getD j []) = decide ((ps.getD i (0, 0, 0)).2.1 < (ps.getD j (0, 0, 0)).2.1) := by
    intro i j hi hj ne
    rw [get i hi, get j hj]
    show (if _ == _ then _ else decide _) = _
    rw [if_neg]
    intro e
    exact ne (inj i j hi hj (eq_of_beq e))
  have irr : ∀ i, i < ps.length → lexLt ((ps.map fun p => [p.2.1, p.2.2]).getD i []) ((ps.map fun p => [p.2.1, p.2.2]).getD i []) = false := by
    intro i hi
    rw [get i hi]
    show (if _ == _ then (if _ == _ then _ else _) else _) = _
    rw [if_pos (beq_self_eq_true _), if_pos (beq_self_eq_true _)]; rfl
  have O : Ord ps.length fun i j => lexLt ((ps.map fun p => [p.2.1, p.2.2]).getD i []) ((ps.map fun p => [p.2.1, p.2.2]).getD j []) := by
    refine ⟨fun i j hi hj h => ?_, fun i j k hi hj hk h h' => ?_, fun i j hi hj ne h => ?_⟩
    · by_cases e : i = j
      · subst e; exact h.symm.trans (irr i hi) ▸ irr i hi
      · rw [key i j hi hj e] at h; rw [key j i hj hi (Ne.symm e)]; simp at h ⊢; omega
    · by_cases e : i = j
      · subst e; exact h'
      · by_cases e' : j = k
        · subst e'; exact h
        · rw [key i j hi hj e] at h; rw [key j k hj hk e'] at h'
          by_cases e'' : i = k
          · subst e''; simp at h h'; omega
          · rw [key i k hi hk e'']; simp at h h' ⊢; omega
    · rw [key i j hi hj ne] at h; rw [key j i hj hi (Ne.symm ne)]; simp at h ⊢
      have := fun e => ne (inj i j hi hj e)
      simp at this; omega
  refine ⟨(sortIdx ps.length fun i j => lexLt ((ps.map fun p => [p.2.1, p.2.2]).getD i []) ((ps.map fun p => [p.2.1, p.2.2]).getD j [])).map fun i => ps.getD i (0, 0, 0), ?_, ?_, ?_⟩
  · unfold sortA
    rw [List.length_map, if_pos h, keys]
    simp only [Option.map_some, Option.some.injEq, List.map_map]
    refine List.map_congr_left fun i hi => ?_
    have := sortIdx_lt i hi
    simp [List.getD_eq_getElem?_getD, this]
  · refine (sortIdx_perm.map _).trans ?_
    rw [show (List.range ps.length).map (fun i => ps.getD i (0, 0, 0)) = ps from ?_]
    refine List.ext_getElem (by simp) fun i h1 h2 => by simp [h2]
  · rw [List.pairwise_map]
    have nd : (sortIdx ps.length fun i j => lexLt ((ps.map fun p => [p.2.1, p.2.2]).getD i []) ((ps.map fun p => [p.2.1, p.2.2]).getD j [])).Nodup := (sortIdx_perm.nodup_iff).mpr List.nodup_range
    refine ((sortIdx_sorted O).and nd).imp_of_mem fun {i j} hi hj h => ?_
    have h2 := h.1
    rw [key i j (sortIdx_lt i hi) (sortIdx_lt j hj) h.2] at h2
    simpa using h2
end Mini

end

section
set_option autoImplicit false
namespace Mini
open PySem

/-! locals: what is known of them -/
def Has (ρ l : Loc) : Prop := ∀ x v, l.lookup x = some v → ρ.lookup x = some v
theorem Has.refl (l : Loc) : Has l l := fun _ _ h => h
theorem lookup_put {x y : Str} {v : AV} : ∀ {l : Loc}, (putAttr x v l).lookup y = if y = x then some v else l.lookup y
  | [] => by
    show List.lookup y [(x, v)] = _
    rw [List.lookup_cons]
    by_cases h : y = x
    · rw [if_pos h, h, beq_self_eq_true]
    · rw [if_neg h, beq_eq_false_iff_ne.mpr h]
  | p :: r => by
    unfold putAttr
    by_cases hp : p.1 = x
    · rw [if_pos (by rw [hp]; exact beq_self_eq_true x), List.lookup_cons]
      by_cases h : y = x
      · rw [if_pos h, h, beq_self_eq_true]
      · rw [if_neg h, beq_eq_false_iff_ne.mpr h]
        obtain ⟨p1, p2⟩ := p
        rw [List.lookup_cons, beq_eq_false_iff_ne.mpr (by rw [← hp] at h; exact h)]
    · rw [if_neg (by intro h; exact hp (eq_of_beq h))]
      obtain ⟨p1, p2⟩ := p
      rw [List.lookup_cons, List.lookup_cons, lookup_put (l := r)]
      by_cases hy : y = p1
      · subst hy; have hp' : ¬ y = x := hp; simp only [beq_self_eq_true, if_neg hp']
      · rw [beq_eq_false_iff_ne.mpr hy]
theorem Has.put {ρ l : Loc} (h : Has ρ l) (x : Str) (v : AV) : Has (putLoc x v ρ) (putLoc x v l) := by
  intro y w e
  unfold putLoc at e ⊢
  rw [lookup_put] at e ⊢
  split
  · rename_i h'; rw [if_pos h'] at e; exact e
  · rename_i h'; rw [if_neg h'] at e; exact h _ _ e
theorem Has.nil (ρ : Loc) : Has ρ [] := fun _ _ h => by cases h
theorem Has.cons {ρ l : Loc} {x : Str} {v : AV} (e : ρ.lookup x = some v) (h : Has ρ l) : Has ρ ((x, v) :: l) := by
  intro y w e'
  rw [List.lookup_cons] at e'
  split at e'
  · rename_i q; cases e'; rw [eq_of_beq q]; exact e
  · exact h _ _ e'
theorem Has.get {ρ l : Loc} {x : Str} {v : AV} (h : Has ρ l) (e : l.lookup x = some v) : ρ.lookup x = some v := h _ _ e

section
variable {α β : Type} {X : IX} {γ : List (Str × Nat)} {ρ l : Loc} {σ : Store} {Q : AV → Store → Prop} {K : KS}

theorem h_loc {x : Str} {v : AV} (L : Has ρ l) (e : l.lookup x = some v) (h : Q v σ) : W (evalE X γ ρ (.loc x) σ) Q := w_loc (L.get e) h

/-! targets -/
theorem a_loc {x : Str} {v : AV} {Q : Loc → Store → Prop} (h : Q (putLoc x v ρ) σ) : W (assignT X γ ρ (.loc x) v σ) Q := by rw [assignT]; exact h
theorem a_cel {x : Str} {v : AV} {Q : Loc → Store → Prop} (h : W (setCelM γ x v σ) fun _ σ => Q ρ σ) : W (assignT X γ ρ (.cel x) v σ) Q := by
  rw [assignT]; exact W.bind (W.mono h fun _ _ h => h)
theorem a_attr {a : CE} {x : Str} {v : AV} {Q : Loc → Store → Prop} (h : W (evalE X γ ρ a σ) fun o σ => W (setAttrM X o x v σ) fun _ σ => Q ρ σ) : W (assignT X γ ρ (.attr a x) v σ) Q := by
  rw [assignT]; exact W.bind (W.mono h fun _ _ h => W.bind (W.mono h fun _ _ h => h))
theorem a_sub {a i : CE} {v : AV} {Q : Loc → Store → Prop} (h : W (evalE X γ ρ a σ) fun o σ => W (evalE X γ ρ i σ) fun i σ => W (setItemM o i v σ) fun _ σ => Q ρ σ) : W (assignT X γ ρ (.sub a i) v σ) Q := by
  rw [assignT]; exact W.bind (W.mono h fun _ _ h => W.bind (W.mono h fun _ _ h => W.bind (W.mono h fun _ _ h => h)))
theorem a_tup {ts : CTs} {v : AV} {vs : List AV} {Q : Loc → Store → Prop} (e : unpackM v σ = some vs) (hl : vs.length = ts.len) (h : W (assignTs X γ ρ ts vs σ) Q) : W (assignT X γ ρ (.tup ts) v σ) Q := by
  rw [assignT, e]
  show W (if (vs.length == ts.len) = true then _ else _) Q
  rw [if_pos (by rw [hl]; exact beq_self_eq_true _)]; exact h
theorem a_nil {Q : Loc → Store → Prop} (h : Q ρ σ) : W (assignTs X γ ρ .nil [] σ) Q := by rw [assignTs]; exact h
theorem a_cons {t : CT} {r : CTs} {v : AV} {vs : List AV} {Q : Loc → Store → Prop} (h : W (assignT X γ ρ t v σ) fun ρ σ => W (assignTs X γ ρ r vs σ) Q) : W (assignTs X γ ρ (.cons t r) (v :: vs) σ) Q := by
  rw [assignTs]; exact W.bind h

/-! more expressions -/
theorem w_bop {op : BoolOp} {es : CL} (h : W (evalB X γ ρ op es σ) Q) : W (evalE X γ ρ (.bop op es) σ) Q := by rw [evalE]; exact h
theorem w_b1 {op : BoolOp} {e : CE} (h : W (evalE X γ ρ e σ) Q) : W (evalB X γ ρ op (.cons e .nil) σ) Q := by rw [evalB]; exact h
theorem w_and {e e' : CE} {r : CL} (h : W (evalE X γ ρ e σ) fun v σ => ∃ b, truthy σ v = some b ∧ if b then W (evalB X γ ρ .And (.cons e' r) σ) Q else Q v σ) : W (evalB X γ ρ .And (.cons e (.cons e' r)) σ) Q := by
  rw [evalB]; exact W.bind (W.mono h fun v σ ⟨b, e, h⟩ => W.bind (W.lift e (by cases b <;> exact h)))
theorem w_or {e e' : CE} {r : CL} (h : W (evalE X γ ρ e σ) fun v σ => ∃ b, truthy σ v = some b ∧ if b then Q v σ else W (evalB X γ ρ .Or (.cons e' r) σ) Q) : W (evalB X γ ρ .Or (.cons e (.cons e' r)) σ) Q := by
  rw [evalB]; exact W.bind (W.mono h fun v σ ⟨b, e, h⟩ => W.bind (W.lift e (by cases b <;> exact h)))
theorem w_cmp2 {v : AV} {op o2 : CmpOp} {e e2 : CE} (h : W (evalE X γ ρ e σ) fun w σ => W (cmpM X op v w σ) fun c σ => ∃ b, truthy σ c = some b ∧ if b then W (evalC X γ ρ w [o2] (.cons e2 .nil) σ) Q else Q c σ) : W (evalC X γ ρ v [op, o2] (.cons e (.cons e2 .nil)) σ) Q := by
  rw [evalC]
  · exact W.bind (W.mono h fun _ _ h => W.bind (W.mono h fun _ _ ⟨b, e, h⟩ => W.bind (W.lift e (by cases b <;> exact h))))
  · intro h; cases h
theorem w_slc {a lo hi st : CE} (h : W (evalE X γ ρ a σ) fun v σ => W (evalE X γ ρ lo σ) fun l σ => W (evalE X γ ρ hi σ) fun h σ => W (evalE X γ ρ st σ) fun s σ => W (sliceM v l h s σ) Q) : W (evalE X γ ρ (.slc a lo hi st) σ) Q := by
  rw [evalE]; exact W.bind (W.mono h fun _ _ h => W.bind (W.mono h fun _ _ h => W.bind (W.mono h fun _ _ h => W.bind h)))
theorem w_dict0 (h : Q (.obj σ.length) (σ ++ [.dict []])) : W (evalE X γ ρ (.dict .nil .nil) σ) Q := by rw [evalE]; exact h
theorem w_dict1 {k v : CE} (h : W (evalE X γ ρ k σ) fun k σ => ∃ i, k = .int i ∧ W (evalE X γ ρ v σ) fun v σ => Q (.obj σ.length) (σ ++ [.dict [(i, v)]])) : W (evalE X γ ρ (.dict (.cons k .nil) (.cons v .nil)) σ) Q := by
  rw [evalE]; exact W.bind (W.mono h fun _ _ ⟨i, e, h⟩ => W.bind (W.mono h fun _ _ h => by subst e; exact h))

/-! loops -/
theorem w_comp {elt : CE} {t : CT} {it : CI} {ifs : CL} (h : W (evalI X γ ρ it σ) fun it σ =>
      W (compLoop (nextIt it) (fun v σ => (assignT X γ [] t v σ).bind fun ρ' σ => (evalIfs X γ ρ' ifs σ).bind fun b σ => if b then (evalE X γ ρ' elt σ).bind fun v σ => .ok (some v) σ else .ok none σ) X.W 0 [] σ) fun vs σ => W (allocL vs σ) Q) : W (evalE X γ ρ (.comp elt t it ifs) σ) Q := by
  rw [evalE]; exact W.bind (W.mono h fun _ _ h => W.bind h)
theorem w_compLoop {nx : Nat → Store → NX} {turn : AV → Store → RE (Option AV)} {Q : List AV → Store → Prop} (I : Nat → List AV → Store → Prop) (N : Nat)
    (step : ∀ i acc σ, i < N → I i acc σ → ∃ v σ', nx i σ = .item v σ' ∧ W (turn v σ') fun r σ => I (i + 1) (match r with | some x => acc ++ [x] | none => acc) σ)
    (stop : ∀ acc σ, I N acc σ → nx N σ = .stop ∧ Q acc σ) : ∀ w i acc σ, N < w + i → i ≤ N → I i acc σ → W (compLoop nx turn w i acc σ) Q
  | 0, i, acc, σ, h, h', hI => by omega
  | w + 1, i, acc, σ, h, h', hI => by
    unfold compLoop
    by_cases hi : i = N
    · subst hi
      obtain ⟨e, hq⟩ := stop acc σ hI
      rw [e]; exact hq
    · obtain ⟨v, σ', e, hw⟩ := step i acc σ (by omega) hI
      rw [e]
      exact W.bind (W.mono hw fun r σ h => w_compLoop I N step stop w (i + 1) _ σ (by omega) (by omega) h)
theorem s_for {t : CT} {it : CI} {b : CB} (h : W (evalI X γ ρ it σ) fun it σ => WS (loopF (nextIt it) (fun v ρ σ => assignT X γ ρ t v σ) (fun ρ σ => execs X γ b ρ σ) X.W 0 ρ σ) K) : WS (exec X γ (.forr t it b) ρ σ) K := by
  rw [exec]; exact WS.then' h
theorem s_loopF {nx : Nat → Store → NX} {asg : AV → Loc → Store → RE Loc} {b : Loc → Store → RS} (I : Nat → Loc → Store → Prop) (N : Nat)
    (step : ∀ i ρ σ, i < N → I i ρ σ → ∃ v σ', nx i σ = .item v σ' ∧ W (asg v ρ σ') fun ρ σ => WS (b ρ σ) { nxt := I (i + 1), cont := I (i + 1), brk := K.nxt, ret := K.ret })
    (stop : ∀ ρ σ, I N ρ σ → nx N σ = .stop ∧ K.nxt ρ σ) : ∀ w i ρ σ, N < w + i → i ≤ N → I i ρ σ → WS (loopF nx asg b w i ρ σ) K
  | 0, i, ρ, σ, h, h', hI => by omega
  | w + 1, i, ρ, σ, h, h', hI => by
    unfold loopF
    by_cases hi : i = N
    · subst hi
      obtain ⟨e, hq⟩ := stop ρ σ hI
      rw [e]; exact hq
    · obtain ⟨v, σ', e, hw⟩ := step i ρ σ (by omega) hI
      rw [e]
      refine WS.then' (W.mono hw fun ρ' σ' h => ?_)
      cases q : b ρ' σ' with
      | nxt ρ σ => rw [q] at h; exact s_loopF I N step stop w (i + 1) ρ σ (by omega) (by omega) h
      | cont ρ σ => rw [q] at h; exact s_loopF I N step stop w (i + 1) ρ σ (by omega) (by omega) h
      | brk ρ σ => rw [q] at h; exact h
      | ret v ρ σ => rw [q] at h; exact h
      | exc k ρ σ => rw [q] at h; exact h.elim
      | bad => rw [q] at h; exact h.elim

/-! more statements -/
theorem s_pass (h : K.nxt ρ σ) : WS (exec X γ .pass ρ σ) K := by rw [exec]; exact h
theorem s_try {b h : CB} {x : AV} (k : WS (execs X γ b ρ σ) K) : WS (exec X γ (.tryE b x h) ρ σ) K := by
  rw [exec]
  cases q : execs X γ b ρ σ <;> rw [q] at k <;> first | exact k | exact k.elim
theorem s_fin {b f : CB} (h : WS (execs X γ b ρ σ) { nxt := fun ρ σ => WS (execs X γ f ρ σ) K, brk := fun ρ σ => WS (execs X γ f ρ σ) { nxt := K.brk, brk := fun _ _ => False, cont := fun _ _ => False, ret := fun _ _ => False }, cont := fun ρ σ => WS (execs X γ f ρ σ) { nxt := K.cont, brk := fun _ _ => False, cont := fun _ _ => False, ret := fun _ _ => False }, ret := fun _ _ => False }) : WS (exec X γ (.tryF b f) ρ σ) K := by
  rw [exec]
  cases q : execs X γ b ρ σ with
  | nxt ρ σ => rw [q] at h; exact h
  | brk ρ σ =>
    rw [q] at h
    have h : WS (execs X γ f ρ σ) { nxt := K.brk, brk := fun _ _ => False, cont := fun _ _ => False, ret := fun _ _ => False } := h
    dsimp only [finish]
    generalize execs X γ f ρ σ = r at h ⊢
    cases r <;> first | exact h | exact h.elim
  | cont ρ σ =>
    rw [q] at h
    have h : WS (execs X γ f ρ σ) { nxt := K.cont, brk := fun _ _ => False, cont := fun _ _ => False, ret := fun _ _ => False } := h
    dsimp only [finish]
    generalize execs X γ f ρ σ = r at h ⊢
    cases r <;> first | exact h | exact h.elim
  | ret v ρ σ => rw [q] at h; exact h.elim
  | exc k ρ σ => rw [q] at h; exact h.elim
  | bad => rw [q] at h; exact h.elim
theorem s_asrt {c : CE} (h : W (evalT X γ ρ c σ) fun v σ => v = true ∧ K.nxt ρ σ) : WS (exec X γ (.asrt c) ρ σ) K := by
  rw [exec]; exact WS.then' (W.mono h fun v _ ⟨e, h⟩ => by subst e; exact h)
theorem s_augL {x : Str} {op : Operator} {e : CE} {i : Int} (L : ρ.lookup x = some (.int i)) (h : W (evalE X γ ρ e σ) fun v σ => plainV op (.int i) v = true ∧ W (binM op (.int i) v σ) fun new σ => K.nxt (putLoc x new ρ) σ) : WS (exec X γ (.aug (.loc x) op e) ρ σ) K := by
  rw [exec, augM, L]
  exact WS.then' (W.lift rfl (WS.then' (W.mono h fun v σ ⟨hp, h⟩ => by rw [if_pos hp]; exact WS.then' h)))
theorem s_augS {a i e : CE} {op : Operator} (h : W (evalE X γ ρ a σ) fun o σ => W (evalE X γ ρ i σ) fun i σ => W (getItemM o i σ) fun old σ => W (evalE X γ ρ e σ) fun v σ => plainV op old v = true ∧ W (binM op old v σ) fun new σ => W (setItemM o i new σ) fun _ σ => K.nxt ρ σ) : WS (exec X γ (.aug (.sub a i) op e) ρ σ) K := by
  rw [exec, augM]
  exact WS.then' (W.mono h fun _ _ h => WS.then' (W.mono h fun _ _ h => WS.then' (W.mono h fun _ _ h => WS.then' (W.mono h fun _ _ ⟨hp, h⟩ => by rw [if_pos hp]; exact WS.then' (W.mono h fun _ _ h => WS.then' h)))))

/-! what is run over -/
theorem i_range {es : CL} {Q : It → Store → Prop} (h : W (evalL X γ ρ es σ) fun vs σ => ∃ xs, rangeM vs = some xs ∧ Q (.items xs) σ) : W (evalI X γ ρ (.range es) σ) Q := by
  rw [evalI]; exact W.bind (W.mono h fun _ _ ⟨xs, e, h⟩ => W.bind (W.lift e h))
theorem i_obj {e : CE} {Q : It → Store → Prop} (h : W (evalE X γ ρ e σ) fun v σ => ∃ n xs, v = .obj n ∧ σ[n]? = some (.list xs) ∧ Q (.lst n) σ) : W (evalI X γ ρ (.obj e) σ) Q := by
  rw [evalI]; exact W.bind (W.mono h fun _ _ ⟨n, xs, e, q, h⟩ => by subst e; simp only [q]; exact h)
theorem i_zip {a b : CE} {Q : It → Store → Prop} (h : W (evalE X γ ρ a σ) fun v σ => W (evalE X γ ρ b σ) fun w σ => ∃ n m xs ys, v = .obj n ∧ w = .obj m ∧ σ[n]? = some (.list xs) ∧ σ[m]? = some (.list ys) ∧ Q (.zip n m) σ) : W (evalI X γ ρ (.zip a b) σ) Q := by
  rw [evalI]; exact W.bind (W.mono h fun _ _ h' => W.bind (W.mono h' fun _ σ hh => by obtain ⟨n, m, xs, ys, e, e', q, q', hq⟩ := hh; subst e; subst e'; simp only [q, q']; exact hq))

/-! a call -/
theorem w_fn {P : Prg} {n : Nat} {a : Addr} {args : List AV} {kw : List (Str × AV)} {fi : FnI} {binds : List (Str × AV)} (e : P.fn a = some fi) (eb : bindA fi.params fi.defs args kw = some binds)
    (h : WS (execs ⟨runF P n, P.cls, P.W⟩ (enterM fi binds σ).1 fi.body (enterM fi binds σ).2.1 (enterM fi binds σ).2.2) { nxt := fun _ σ => Q .none σ, brk := fun _ _ => False, cont := fun _ _ => False, ret := Q }) : W (runF P (n + 1) a args kw σ) Q := by
  rw [runF, e]
  simp only [eb]
  generalize execs _ _ _ _ _ = r at h
  cases r <;> first | exact h | exact h.elim
end
end Mini

end

section
set_option autoImplicit false
namespace Mini
open PySem

/-! the store: reading -/
theorem get_app {σ l : Store} {n : Nat} {o : AO} (h : σ[n]? = some o) : (σ ++ l)[n]? = some o := by
  rw [List.getElem?_append_left (List.getElem?_eq_some_iff.mp h).1]; exact h
theorem get_new {σ : Store} {o : AO} : (σ ++ [o])[σ.length]? = some o := by simp
theorem get_set_ne {σ : Store} {n m : Nat} {o x : AO} (ne : m ≠ n) (h : σ[n]? = some o) : (σ.set m x)[n]? = some o := by
  rw [List.getElem?_set_ne ne]; exact h
theorem get_set_eq {σ : Store} {n : Nat} {o x : AO} (h : σ[n]? = some o) : (σ.set n x)[n]? = some x := by
  rw [List.getElem?_set_self (List.getElem?_eq_some_iff.mp h).1]
theorem lt_of_get {σ : Store} {n : Nat} {o : AO} (h : σ[n]? = some o) : n < σ.length := (List.getElem?_eq_some_iff.mp h).1
theorem ne_of_get {σ : Store} {n m : Nat} {a b : AO} (h : σ[n]? = some a) (h' : σ[m]? = some b) (ne : a ≠ b) : n ≠ m := by
  intro e; subst e; rw [h] at h'; cases h'; exact ne rfl

section
variable {α β : Type} {X : IX} {γ : List (Str × Nat)} {ρ l : Loc} {σ : Store} {Q : AV → Store → Prop} {K : KS}

theorem Qb {p q : Prop} [Decidable p] [Decidable q] (e : p ↔ q) (h : Q (.bool (decide p)) σ) : Q (.bool (decide q)) σ := by
  rw [decide_eq_decide.mpr e] at h; exact h
theorem pl_sub {i j : Int} {R : Prop} (h : R) : plainV .Sub (.int i) (.int j) = true ∧ R := ⟨rfl, h⟩
theorem pl_add {i j : Int} {R : Prop} (h : R) : plainV .Add (.int i) (.int j) = true ∧ R := ⟨rfl, h⟩
def kind : AO → Nat
  | .list _ => 0
  | .tup _ => 1
  | .dict _ => 2
  | .tdict _ => 3
  | .inst _ _ => 4
  | .attrs _ => 5
  | .cell _ => 6
  | .rol _ _ => 7
theorem ne_kind {σ : Store} {n m : Nat} {a b : AO} (h : σ[n]? = some a) (h' : σ[m]? = some b) (ne : (kind a == kind b) = false) : n ≠ m :=
  ne_of_get h h' (fun e => by rw [e, beq_self_eq_true] at ne; cases ne)
/-! truth -/
theorem t_bool {c : Bool} {R : Bool → Prop} (h : R c) : ∃ b, truthy σ (.bool c) = some b ∧ R b := ⟨c, rfl, h⟩
theorem t_int {i : Int} {R : Bool → Prop} (h : R (decide (i ≠ 0))) : ∃ b, truthy σ (.int i) = some b ∧ R b := ⟨_, rfl, by
  have : (i != 0) = decide (i ≠ 0) := by by_cases e : i = 0 <;> simp [e]
  rw [this]; exact h⟩
theorem t_none {R : Bool → Prop} (h : R false) : ∃ b, truthy σ .none = some b ∧ R b := ⟨_, rfl, h⟩
theorem t_list {n : Nat} {xs : List AV} {R : Bool → Prop} (e : σ[n]? = some (.list xs)) (h : R (xs.length != 0)) : ∃ b, truthy σ (.obj n) = some b ∧ R b := ⟨_, by simp only [truthy, e], h⟩
theorem t_rol {n : Nat} {xs : List AV} {o : Obj} {R : Bool → Prop} (e : σ[n]? = some (.rol xs o)) (h : R (xs.length != 0)) : ∃ b, truthy σ (.obj n) = some b ∧ R b := ⟨_, by simp only [truthy, e], h⟩
theorem ite_dec {p : Prop} [Decidable p] {A B : Prop} (h1 : p → A) (h2 : ¬ p → B) : if decide p = true then A else B := by
  by_cases h : p
  · rw [if_pos (decide_eq_true h)]; exact h1 h
  · rw [if_neg (by rw [decide_eq_false h]; decide)]; exact h2 h
theorem ite_ndec {p : Prop} [Decidable p] {A B : Prop} (h1 : ¬ p → A) (h2 : p → B) : if (!decide p) = true then A else B := by
  by_cases h : p
  · rw [if_neg (by rw [decide_eq_true h]; decide)]; exact h2 h
  · rw [if_pos (by rw [decide_eq_false h]; decide)]; exact h1 h
theorem ite_t {A B : Prop} (h : A) : if true = true then A else B := h
theorem ite_f {A B : Prop} (h : B) : if false = true then A else B := h
theorem ite_nt {A B : Prop} (h : B) : if (!true) = true then A else B := h
theorem ite_nf {A B : Prop} (h : A) : if (!false) = true then A else B := h

/-! arithmetic -/
theorem small_of {i : Int} (h1 : -18446744073709551616 < i) (h2 : i < 18446744073709551616) : small i = true := by
  unfold small iBnd; rw [decide_eq_true h1, decide_eq_true h2]; rfl
theorem b_add {i j : Int} (h : Q (.int (i + j)) σ) : W (binM .Add (.int i) (.int j) σ) Q := h
theorem b_sub {i j : Int} (h : Q (.int (i - j)) σ) : W (binM .Sub (.int i) (.int j) σ) Q := h
theorem b_mul {i j : Int} (h1 : -18446744073709551616 < i ∧ i < 18446744073709551616) (h2 : -18446744073709551616 < j ∧ j < 18446744073709551616) (h : Q (.int (i * j)) σ) : W (binM .Mult (.int i) (.int j) σ) Q := by
  show W (if (small i && small j) = true then _ else _) Q
  rw [small_of h1.1 h1.2, small_of h2.1 h2.2]; exact h
theorem b_div {i j : Int} (hj : 0 < j ∧ j < 1073741824) (h : Q (.int (i / j)) σ) : W (binM .FloorDiv (.int i) (.int j) σ) Q := by
  unfold binM
  have h1 : (j == 0) = false := beq_eq_false_iff_ne.mpr (by omega)
  have h2 : decide (j.natAbs < 1073741824) = true := decide_eq_true (by omega)
  simp only [h1, h2]
  rw [Int.fdiv_eq_ediv_of_nonneg _ (by omega)]; exact h
theorem b_mod {i j : Int} (hj : 0 < j) (h : Q (.int (i % j)) σ) : W (binM .Mod (.int i) (.int j) σ) Q := by
  unfold binM
  have h1 : (j == 0) = false := beq_eq_false_iff_ne.mpr (by omega)
  simp only [h1]
  rw [Int.fmod_eq_emod_of_nonneg _ (by omega)]; exact h
theorem b_shl {i j : Int} (hj : 0 ≤ j ∧ j ≤ 1000) (h1 : -18446744073709551616 < i ∧ i < 18446744073709551616) (h : Q (.int (i * 2 ^ j.toNat)) σ) : W (binM .LShift (.int i) (.int j) σ) Q := by
  show W (if (decide (0 ≤ j) && decide (j ≤ 1000) && small i) = true then _ else _) Q
  rw [decide_eq_true hj.1, decide_eq_true hj.2, small_of h1.1 h1.2]; exact h
theorem b_lists {n m : Nat} {xs ys : List AV} (e : σ[n]? = some (.list xs)) (e' : σ[m]? = some (.list ys)) (hl : xs.length + ys.length < lim) (h : Q (.obj σ.length) (σ ++ [.list (xs ++ ys)])) : W (binM .Add (.obj n) (.obj m) σ) Q := by
  unfold binM; simp only [e, e', if_pos hl]; exact h
theorem b_rep {n : Nat} {x : AV} {j : Int} (e : σ[n]? = some (.list [x])) (hj : 0 ≤ j ∧ j < 1000) (h : Q (.obj σ.length) (σ ++ [.list (List.replicate j.toNat x)])) : W (binM .Mult (.obj n) (.int j) σ) Q := by
  unfold binM; simp only [e, decide_eq_true hj.1, decide_eq_true hj.2]; exact h

/-! comparing ints -/
theorem c_lt {i j : Int} (h : Q (.bool (decide (i < j))) σ) : W (cmpM X .Lt (.int i) (.int j) σ) Q := h
theorem c_le {i j : Int} (h : Q (.bool (decide (i ≤ j))) σ) : W (cmpM X .LtE (.int i) (.int j) σ) Q := h
theorem c_gt {i j : Int} (h : Q (.bool (decide (j < i))) σ) : W (cmpM X .Gt (.int i) (.int j) σ) Q := h
theorem c_ge {i j : Int} (h : Q (.bool (decide (j ≤ i))) σ) : W (cmpM X .GtE (.int i) (.int j) σ) Q := h
theorem c_eq {i j : Int} (h : Q (.bool (decide (i = j))) σ) : W (cmpM X .Eq (.int i) (.int j) σ) Q := h
theorem c_ne {i j : Int} (h : Q (.bool (!decide (i = j))) σ) : W (cmpM X .NotEq (.int i) (.int j) σ) Q := h
theorem c_isn (h : Q (.bool true) σ) : W (cmpM X .Is .none .none σ) Q := h
theorem c_isi {i : Int} (h : Q (.bool false) σ) : W (cmpM X .Is (.int i) .none σ) Q := h
theorem c_in {i : Int} {n : Nat} {is : List Int} (e : σ[n]? = some (.list (is.map .int))) (h : Q (.bool (decide (i ∈ is))) σ) : W (cmpM X .In (.int i) (.obj n) σ) Q := by
  have : cmpP .In (.int i) (.obj n) σ = some (decide (i ∈ is)) := by
    show containsM σ (.int i) (.obj n) = _
    simp only [containsM, e, memV, mapM_int, Option.map_some, List.contains_eq_mem]
  show W ((lift (cmpP .In (.int i) (.obj n) σ) σ).bind _) Q
  rw [this]; exact h
theorem c_nin {i : Int} {n : Nat} {is : List Int} (e : σ[n]? = some (.list (is.map .int))) (h : Q (.bool (!decide (i ∈ is))) σ) : W (cmpM X .NotIn (.int i) (.obj n) σ) Q := by
  have : cmpP .NotIn (.int i) (.obj n) σ = some (!decide (i ∈ is)) := by
    show (containsM σ (.int i) (.obj n)).map _ = _
    simp only [containsM, e, memV, mapM_int, Option.map_some, List.contains_eq_mem]
  show W ((lift (cmpP .NotIn (.int i) (.obj n) σ) σ).bind _) Q
  rw [this]; exact h
theorem c_ind {i : Int} {n : Nat} {es : List (Int × AV)} (e : σ[n]? = some (.dict es)) (h : Q (.bool (es.lookup i).isSome) σ) : W (cmpM X .In (.int i) (.obj n) σ) Q := by
  have : cmpP .In (.int i) (.obj n) σ = some (es.lookup i).isSome := by
    show containsM σ (.int i) (.obj n) = _
    simp only [containsM, e]
  show W ((lift (cmpP .In (.int i) (.obj n) σ) σ).bind _) Q
  rw [this]; exact h

theorem c_indN {i : Int} {n : Nat} {es : List (Int × AV)} (e : σ[n]? = some (.dict es)) (hn : es.lookup i = none) (h : Q (.bool false) σ) : W (cmpM X .In (.int i) (.obj n) σ) Q :=
  c_ind e (by rw [hn]; exact h)
/-! items -/
theorem place_of {i : Int} {n : Nat} (h0 : 0 ≤ i) (h : i < n) : place i n = some i.toNat := by
  unfold place; rw [if_pos h0, if_pos h]
theorem i_list {n : Nat} {xs : List AV} {i : Int} {v : AV} (e : σ[n]? = some (.list xs)) (h0 : 0 ≤ i) (hv : xs[i.toNat]? = some v) (h : Q v σ) : W (getItemM (.obj n) (.int i) σ) Q := by
  have hl := (List.getElem?_eq_some_iff.mp hv).1
  unfold getItemM; simp only [e, place_of h0 (show i < (xs.length : Int) by omega), Option.bind_some, hv]; exact h
theorem i_rol {n : Nat} {xs : List AV} {o : Obj} {i : Int} {v : AV} (e : σ[n]? = some (.rol xs o)) (h0 : 0 ≤ i) (hv : xs[i.toNat]? = some v) (h : Q v σ) : W (getItemM (.obj n) (.int i) σ) Q := by
  have hl := (List.getElem?_eq_some_iff.mp hv).1
  unfold getItemM; simp only [e, place_of h0 (show i < (xs.length : Int) by omega), Option.bind_some, hv]; exact h
theorem i_tup {n : Nat} {xs : List AV} {i : Int} {v : AV} (e : σ[n]? = some (.tup xs)) (h0 : 0 ≤ i) (hv : xs[i.toNat]? = some v) (h : Q v σ) : W (getItemM (.obj n) (.int i) σ) Q := by
  have hl := (List.getElem?_eq_some_iff.mp hv).1
  unfold getItemM; simp only [e, place_of h0 (show i < (xs.length : Int) by omega), Option.bind_some, hv]; exact h
theorem i_dict {n : Nat} {es : List (Int × AV)} {k : Int} {v : AV} (e : σ[n]? = some (.dict es)) (hv : es.lookup k = some v) (h : Q v σ) : W (getItemM (.obj n) (.int k) σ) Q := by
  unfold getItemM; simp only [e, hv]; exact h
theorem x_list {n : Nat} {xs : List AV} {i : Int} {w : AV} {Q : Unit → Store → Prop} (e : σ[n]? = some (.list xs)) (h0 : 0 ≤ i) (hi : i < xs.length) (h : Q () (σ.set n (.list (xs.set i.toNat w)))) : W (setItemM (.obj n) (.int i) w σ) Q := by
  unfold setItemM; simp only [e, decide_eq_true h0, decide_eq_true hi]; exact h
theorem x_dict {n : Nat} {es : List (Int × AV)} {k : Int} {w : AV} {Q : Unit → Store → Prop} (e : σ[n]? = some (.dict es)) (hl : es.length < lim) (h : Q () (σ.set n (.dict (putKey k w es)))) : W (setItemM (.obj n) (.int k) w σ) Q := by
  unfold setItemM; simp only [e, if_pos hl]; exact h
theorem l_alloc {vs : List AV} (hl : vs.length < lim) (h : Q (.obj σ.length) (σ ++ [.list vs])) : W (allocL vs σ) Q := by
  unfold allocL; rw [if_pos hl]; exact h

/-! attributes -/
theorem g_attr {n d : Nat} {C : Addr} {ci : ClsI} {x : Str} {fs : List (Str × AV)} {v : AV} (e : σ[n]? = some (.inst C d)) (ec : X.cls C = some ci) (hp : ci.props.lookup x = none) (ha : ci.attrs.contains x = true)
    (e' : σ[d]? = some (.attrs fs)) (hx : fs.lookup x = some v) (hh : handed v = true) (h : Q v σ) : W (getAttrM X (.obj n) x σ) Q := by
  unfold getAttrM; simp only [e, ec, hp, ha, if_true, findAttrs, e', Option.bind_some, hx, hh]; exact h
theorem g_prop {n d : Nat} {C : Addr} {ci : ClsI} {x : Str} {g s : Addr} (e : σ[n]? = some (.inst C d)) (ec : X.cls C = some ci) (hp : ci.props.lookup x = some (g, s))
    (h : W (X.call g [.obj n] [] σ) fun r σ => handed r = true ∧ Q r σ) : W (getAttrM X (.obj n) x σ) Q := by
  unfold getAttrM; simp only [e, ec, hp]; exact W.bind (W.mono h fun r σ ⟨e, h⟩ => by rw [if_pos e]; exact h)
theorem p_attr {n d : Nat} {C : Addr} {ci : ClsI} {x : Str} {fs : List (Str × AV)} {w : AV} {Q : Unit → Store → Prop} (e : σ[n]? = some (.inst C d)) (ec : X.cls C = some ci) (hp : ci.props.lookup x = none) (ha : ci.attrs.contains x = true)
    (e' : σ[d]? = some (.attrs fs)) (hl : fs.length < 900) (h : Q () (σ.set d (.attrs (putAttr x w fs)))) : W (setAttrM X (.obj n) x w σ) Q := by
  unfold setAttrM; simp only [e, ec, hp, ha, if_true, findAttrs, e', if_pos hl]; exact h
theorem p_prop {n d : Nat} {C : Addr} {ci : ClsI} {x : Str} {g s : Addr} {w : AV} {Q : Unit → Store → Prop} (e : σ[n]? = some (.inst C d)) (ec : X.cls C = some ci) (hp : ci.props.lookup x = some (g, s))
    (h : W (X.call s [.obj n, w] [] σ) fun _ σ => Q () σ) : W (setAttrM X (.obj n) x w σ) Q := by
  unfold setAttrM; simp only [e, ec, hp]; exact W.bind (W.mono h fun _ σ h => h)
/-- a method of an own object -/
theorem m_fn {n d : Nat} {C : Addr} {ci : ClsI} {x : Str} {f : Addr} {fs : List (Str × AV)} {R : MV → Prop} (e : σ[n]? = some (.inst C d)) (ec : X.cls C = some ci) (hm : ci.meths.lookup x = some f) (e' : σ[d]? = some (.attrs fs)) (hx : fs.lookup x = none)
    (h : R (.fn f)) : ∃ f, findM X (.obj n) x σ = some f ∧ R f := ⟨.fn f, by simp only [findM, e, ec, hm, findAttrs, e', hx], h⟩
theorem m_lst {n : Nat} {xs : List AV} {x : Str} {id : String} {R : MV → Prop} (e : σ[n]? = some (.list xs)) (hx : listIds.lookup x = some id) (h : R (.lst id)) : ∃ f, findM X (.obj n) x σ = some f ∧ R f := ⟨.lst id, by simp only [findM, e, hx, Option.map_some], h⟩
theorem m_lstC {n : Nat} {xs : List AV} {x : Str} {id : String} {args : List AV} (e : σ[n]? = some (.list xs)) (h : W (listMeth n xs x args σ X) Q) : W (methM X (.lst id) (.obj n) x args [] σ) Q := by
  unfold methM; simp only [e]; exact h
theorem m_fnC {f : Addr} {o : AV} {x : Str} {args : List AV} {kw : List (Str × AV)} (h : W (X.call f (o :: args) kw σ) Q) : W (methM X (.fn f) o x args kw σ) Q := h
theorem lm_append {nm : Str} {n : Nat} {xs : List AV} {v : AV} (hn : nm = ("append" : Str)) (hl : xs.length < lim) (h : Q .none (σ.set n (.list (xs ++ [v])))) : W (listMeth n xs nm [v] σ X) Q := by
  subst hn
  unfold listMeth; rw [if_pos (by rfl)]; simp only [if_pos hl]; exact h
theorem lm_pop {nm : Str} {n : Nat} {xs : List AV} {v : AV} {i : Int} (hn : nm = ("pop" : Str)) (h0 : 0 ≤ i) (hv : xs[i.toNat]? = some v) (h : Q v (σ.set n (.list (xs.eraseIdx i.toNat)))) : W (listMeth n xs nm [.int i] σ X) Q := by
  subst hn
  have hl := (List.getElem?_eq_some_iff.mp hv).1
  unfold listMeth; rw [if_neg (by decide), if_pos (by rfl)]
  have : xs.isEmpty = false := by cases xs with | nil => simp at hl | cons => rfl
  simp only [this, place_of h0 (show i < (xs.length : Int) by omega), hv]; exact h
theorem lm_insert {nm : Str} {n : Nat} {xs : List AV} {v : AV} {i : Int} (hn : nm = ("insert" : Str)) (h0 : 0 ≤ i) (hi : i ≤ xs.length) (hl : xs.length < lim) (h : Q .none (σ.set n (.list (xs.take i.toNat ++ v :: xs.drop i.toNat)))) : W (listMeth n xs nm [.int i, v] σ X) Q := by
  subst hn
  unfold listMeth; rw [if_neg (by decide), if_neg (by decide), if_pos (by rfl)]
  simp only [decide_eq_true h0, decide_eq_true hi, decide_eq_true hl]; exact h
theorem lm_extend {nm : Str} {n m : Nat} {xs ys : List AV} (hn : nm = ("extend" : Str)) (e : σ[m]? = some (.list ys)) (ne : m ≠ n) (hl : xs.length + ys.length < lim) (h : Q .none (σ.set n (.list (xs ++ ys)))) : W (listMeth n xs nm [.obj m] σ X) Q := by
  subst hn
  unfold listMeth; rw [if_neg (by decide), if_neg (by decide), if_neg (by decide), if_pos (by rfl)]
  have : (m != n) = true := bne_iff_ne.mpr ne
  simp only [e, this, decide_eq_true hl]; exact h
theorem lm_reverse {nm : Str} {n : Nat} {xs : List AV} (hn : nm = ("reverse" : Str)) (h : Q .none (σ.set n (.list xs.reverse))) : W (listMeth n xs nm [] σ X) Q := by
  subst hn
  unfold listMeth; rw [if_neg (by decide), if_neg (by decide), if_neg (by decide), if_neg (by decide), if_pos (by rfl)]; exact h
theorem lm_sort {nm : Str} {n : Nat} {xs ys : List AV} (hn : nm = ("sort" : Str)) (e : sortA σ xs = some ys) (h : Q .none (σ.set n (.list ys))) : W (listMeth n xs nm [] σ X) Q := by
  subst hn
  unfold listMeth; rw [if_neg (by decide), if_neg (by decide), if_neg (by decide), if_neg (by decide), if_neg (by decide), if_pos (by rfl)]; simp only [e]; exact h
theorem lm_index {nm : Str} {n : Nat} {is : List Int} {i : Int} {k : Nat} (hn : nm = ("index" : Str)) (e : is.findIdx? (· == i) = some k) (h : Q (.int k) σ) : W (listMeth n (is.map .int) nm [.int i] σ X) Q := by
  subst hn
  unfold listMeth; rw [if_neg (by decide), if_neg (by decide), if_neg (by decide), if_neg (by decide), if_neg (by decide), if_neg (by decide), if_pos (by rfl)]
  simp only [idxV, mapM_int, Option.bind_some, e]; exact h

/-! builtins -/
theorem k_len {n : Nat} {xs : List AV} (e : σ[n]? = some (.list xs)) (h : Q (.int xs.length) σ) : W (callM X (.fix (.builtin "len")) [.obj n] [] σ) Q := by
  show W ((lift (lenM (.obj n) σ) σ).bind _) Q
  simp only [lenM, e]; exact h
theorem k_lenR {n : Nat} {xs : List AV} {o : Obj} (e : σ[n]? = some (.rol xs o)) (h : Q (.int xs.length) σ) : W (callM X (.fix (.builtin "len")) [.obj n] [] σ) Q := by
  show W ((lift (lenM (.obj n) σ) σ).bind _) Q
  simp only [lenM, e]; exact h
theorem k_lenD {n : Nat} {es : List (Int × AV)} (e : σ[n]? = some (.dict es)) (h : Q (.int es.length) σ) : W (callM X (.fix (.builtin "len")) [.obj n] [] σ) Q := by
  show W ((lift (lenM (.obj n) σ) σ).bind _) Q
  simp only [lenM, e]; exact h
theorem k_isint {i : Int} (h : Q (.bool true) σ) : W (callM X (.fix (.builtin "isinstance")) [.int i, .fix (.type "int")] [] σ) Q := h
theorem k_isbool {i : Int} (h : Q (.bool false) σ) : W (callM X (.fix (.builtin "isinstance")) [.int i, .fix (.type "bool")] [] σ) Q := h
theorem k_isref {n : Nat} {C : Addr} {d : Nat} (e : σ[n]? = some (.inst C d)) (h : Q (.bool true) σ) : W (callM X (.fix (.builtin "isinstance")) [.obj n, .fix (.ref C)] [] σ) Q := by
  show W ((lift (isInstM (.obj n) (.fix (.ref C)) σ) σ).bind _) Q
  simp only [isInstM, instCls, e, beq_self_eq_true, if_true]; exact h
theorem k_sum {n : Nat} {is : List Int} (e : σ[n]? = some (.list (is.map .int))) (h : Q (.int is.sum) σ) : W (callM X (.fix (.builtin "sum")) [.obj n] [] σ) Q := by
  show W ((lift (sumM (.obj n) σ) σ).bind _) Q
  simp only [sumM, e, mapM_int, Option.map_some]; exact h
theorem k_sorted {n : Nat} {xs ys : List AV} (e : σ[n]? = some (.list xs)) (e' : sortA σ xs = some ys) (h : Q (.obj σ.length) (σ ++ [.list ys])) : W (callM X (.fix (.builtin "sorted")) [.obj n] [] σ) Q := by
  show W (builtinM "sorted" [.obj n] σ) Q
  unfold builtinM; simp only [e, e']; exact h
theorem k_ref {a : Addr} {args : List AV} {kw : List (Str × AV)} (h : W (X.call a args kw σ) Q) : W (callM X (.fix (.ref a)) args kw σ) Q := h

/-! two objects of one class -/
theorem c_user {m n : Nat} {C : Addr} {d d' : Nat} {ci : ClsI} {f : Addr} (e : σ[m]? = some (.inst C d)) (e' : σ[n]? = some (.inst C d')) (ec : X.cls C = some ci) (hm : ci.meths.lookup userLt = some f)
    (h : W (X.call f [.obj m, .obj n] [] σ) fun r σ => ∃ c, r = .bool c ∧ Q (.bool c) σ) : W (cmpM X .Lt (.obj m) (.obj n) σ) Q := by
  unfold cmpM
  have h1 : isInst σ (.obj m) = true := by simp only [isInst, instCls, e]; rfl
  rw [if_pos h1]
  show W (userCmp X userLt (.obj m) (.obj n) σ) Q
  unfold userCmp
  simp only [instCls, e, e', beq_self_eq_true, if_true, ec, Option.bind_some, hm]
  exact W.bind (W.mono h fun r σ hh => by obtain ⟨c, q, h⟩ := hh; subst q; exact h)

theorem w_call0 {f : CE} {es : CL} (h : W (evalE X γ ρ f σ) fun f σ => W (evalL X γ ρ es σ) fun vs σ => W (callM X f vs [] σ) Q) : W (evalE X γ ρ (.call f es [] .nil) σ) Q :=
  w_call (W.mono h fun _ _ h => W.mono h fun _ _ h => w_nil h)
theorem w_meth0 {o : CE} {x : Str} {es : CL} (h : W (evalE X γ ρ o σ) fun o σ => ∃ f, findM X o x σ = some f ∧ W (evalL X γ ρ es σ) fun vs σ => W (methM X f o x vs [] σ) Q) : W (evalE X γ ρ (.meth o x es [] .nil) σ) Q :=
  w_meth (W.mono h fun _ _ ⟨f, e, h⟩ => ⟨f, e, W.mono h fun _ _ h => w_nil h⟩)
/-! comprehensions -/
theorem w_ifs0 {Q : Bool → Store → Prop} (h : Q true σ) : W (evalIfs X γ ρ .nil σ) Q := by rw [evalIfs]; exact h
theorem w_ifs1 {e : CE} {r : CL} {Q : Bool → Store → Prop} (h : W (evalE X γ ρ e σ) fun v σ => ∃ b, truthy σ v = some b ∧ if b then W (evalIfs X γ ρ r σ) Q else Q false σ) : W (evalIfs X γ ρ (.cons e r) σ) Q := by
  rw [evalIfs]; exact W.bind (W.mono h fun v σ ⟨b, e, h⟩ => W.bind (W.lift e (by cases b <;> exact h)))
theorem w_turn {elt : CE} {t : CT} {ifs : CL} {v : AV} {Q : Option AV → Store → Prop} (h : W (assignT X γ [] t v σ) fun ρ' σ => W (evalIfs X γ ρ' ifs σ) fun b σ => if b then W (evalE X γ ρ' elt σ) fun v σ => Q (some v) σ else Q none σ) :
    W ((assignT X γ [] t v σ).bind fun ρ' σ => (evalIfs X γ ρ' ifs σ).bind fun b σ => if b then (evalE X γ ρ' elt σ).bind fun v σ => .ok (some v) σ else .ok none σ) Q :=
  W.bind (W.mono h fun _ _ h => W.bind (W.mono h fun b _ h => by cases b with | true => exact W.bind h | false => exact h))
/-- a comprehension without conditions that changes nothing -/
theorem comp_pure {elt : CE} {t : CT} {N : Nat} {nx : Nat → Store → NX} {Q : List AV → Store → Prop} (f : Nat → AV) (item : Nat → AV) (hw : N < X.W)
    (hn : ∀ i, i < N → nx i σ = .item (item i) σ) (hs : nx N σ = .stop)
    (he : ∀ i, i < N → W (assignT X γ [] t (item i) σ) fun ρ' σ' => W (evalE X γ ρ' elt σ') fun v σ'' => v = f i ∧ σ'' = σ)
    (h : Q ((List.range N).map f) σ) : W (compLoop nx (fun v σ => (assignT X γ [] t v σ).bind fun ρ' σ => (evalIfs X γ ρ' .nil σ).bind fun b σ => if b then (evalE X γ ρ' elt σ).bind fun v σ => .ok (some v) σ else .ok none σ) X.W 0 [] σ) Q := by
  refine w_compLoop (fun i acc τ => τ = σ ∧ acc = (List.range i).map f) N ?_ ?_ _ _ _ _ (by omega) (Nat.zero_le _) ⟨rfl, rfl⟩
  · rintro i acc τ hi ⟨rfl, rfl⟩
    refine ⟨_, _, hn i hi, w_turn (W.mono (he i hi) fun ρ' σ' h => w_ifs0 (ite_t (W.mono h ?_)))⟩
    rintro v σ'' ⟨rfl, rfl⟩
    refine ⟨rfl, ?_⟩
    rw [List.range_succ, List.map_append]; rfl
  · rintro acc τ ⟨rfl, rfl⟩
    exact ⟨hs, h⟩

/-! items of what is run over -/
theorem nx_items {xs : List AV} {i : Nat} {v : AV} (h : xs[i]? = some v) : nextIt (.items xs) i σ = .item v σ := by simp only [nextIt, h]
theorem nx_itemsE {xs : List AV} {i : Nat} (h : xs.length ≤ i) : nextIt (.items xs) i σ = .stop := by simp only [nextIt, List.getElem?_eq_none h]
theorem nx_lst {n : Nat} {xs : List AV} {i : Nat} {v : AV} (e : σ[n]? = some (.list xs)) (h : xs[i]? = some v) : nextIt (.lst n) i σ = .item v σ := by simp only [nextIt, e, h]
theorem nx_lstE {n : Nat} {xs : List AV} {i : Nat} (e : σ[n]? = some (.list xs)) (h : xs.length ≤ i) : nextIt (.lst n) i σ = .stop := by simp only [nextIt, e, List.getElem?_eq_none h]
theorem mid_in {i : Int} (h : -100000 < i ∧ i < 100000) : mid i = true := by unfold mid; rw [decide_eq_true h.1, decide_eq_true h.2]; rfl
theorem range1 {b : Int} (h : -100000 < b ∧ b < 100000) : rangeM [.int b] = some (rangeUp 0 b) := by
  simp only [rangeM, mid_in h, if_true]
theorem range2 {a b : Int} (ha : -100000 < a ∧ a < 100000) (h : -100000 < b ∧ b < 100000) : rangeM [.int a, .int b] = some (rangeUp a b) := by
  simp only [rangeM, mid_in h, mid_in ha, Bool.and_self, if_true]
theorem rangeUp_get {a b : Int} {i : Nat} (h : (i : Int) < b - a) : (rangeUp a b)[i]? = some (.int (a + i)) := by
  unfold rangeUp; rw [List.getElem?_map, List.getElem?_range (by omega)]; rfl
theorem rangeUp_len {a b : Int} : (rangeUp a b).length = (b - a).toNat := by unfold rangeUp; simp

/-- a call of a function without cells -/
theorem w_fn0 {P : Prg} {n : Nat} {a : Addr} {args : List AV} {kw : List (Str × AV)} {fi : FnI} {binds : List (Str × AV)} (e : P.fn a = some fi) (eb : bindA fi.params fi.defs args kw = some binds) (ec : cellNames fi.names = [])
    (h : WS (execs ⟨runF P n, P.cls, P.W⟩ [] fi.body binds σ) { nxt := fun _ σ => Q .none σ, brk := fun _ _ => False, cont := fun _ _ => False, ret := Q }) : W (runF P (n + 1) a args kw σ) Q := by
  refine w_fn e eb ?_
  have : enterM fi binds σ = ([], binds, σ) := by
    simp only [enterM, ec, List.length_nil, List.range_zero, List.map_nil, List.zip_nil_left, List.append_nil]
    congr 1
    congr 1
    rw [List.filter_eq_self]; intro p _; rfl
  rw [this]; exact h
/-- a new object of a class -/
theorem w_new {P : Prg} {n : Nat} {a : Addr} {args : List AV} {kw : List (Str × AV)} {ci : ClsI} (e : P.fn a = none) (ec : P.cls a = some ci)
    (h : W (runF P n ci.init (.obj (σ.length + 1) :: args) kw (σ ++ [.attrs [], .inst a σ.length])) fun r τ => r = .none ∧ Q (.obj (σ.length + 1)) τ) : W (runF P (n + 1) a args kw σ) Q := by
  rw [runF, e]
  simp only [ec]
  exact W.bind (W.mono h fun r τ ⟨e, h⟩ => by subst e; exact h)
theorem cel_get {x : Str} {n : Nat} {v : AV} (hg : γ.lookup x = some n) (e : σ[n]? = some (.cell (some v))) : celM γ x σ = some v := by
  unfold celM; rw [hg]; simp only [Option.bind_some, e]
theorem cel_set {x : Str} {n : Nat} {v : AV} {o : Option AV} {Q : Unit → Store → Prop} (hg : γ.lookup x = some n) (e : σ[n]? = some (.cell o)) (h : Q () (σ.set n (.cell (some v)))) : W (setCelM γ x v σ) Q := by
  unfold setCelM; rw [hg]; simp only [e]; exact h
end
end Mini

end

section
set_option autoImplicit false
namespace Mini
open PySem

/-- the attributes of a stream -/
def sfs (id w : Int) (k : Nat) (par : AV) (q : Nat) (act : Bool) (lw df : Int) : List (Str × AV) :=
  [("stream_id", .int id), ("_weight", .int w), ("children", .obj k), ("parent", par), ("child_queue", .obj q), ("active", .bool act), ("last_weight", .int lw), ("_deficit", .int df)]
structure Ad where
  s : Nat
  d : Nat
  k : Nat
  q : Nat
structure Nd where
  w : Int
  act : Bool
  lw : Int
  df : Int
  q : List (Int × Nat)
  ch : List Nat
  par : Option Nat
def upd {α : Type} (T : Nat → α) (p : Nat) (n : α) : Nat → α := fun i => if i = p then n else T i
theorem upd_eq {α : Type} {T : Nat → α} {p : Nat} {n : α} : upd T p n p = n := if_pos rfl
theorem upd_ne {α : Type} {T : Nat → α} {p i : Nat} {n : α} (h : i ≠ p) : upd T p n i = T i := if_neg h
theorem upd_upd {α : Type} {T : Nat → α} {p : Nat} {n m : α} : upd (upd T p n) p m = upd T p m := by
  funext i; unfold upd; split <;> rfl
theorem upd_comm {α : Type} {T : Nat → α} {p j : Nat} {n m : α} (h : p ≠ j) : upd (upd T p n) j m = upd (upd T j m) p n := by
  funext i; unfold upd; split <;> split <;> first | rfl | omega


def parV (A : Nat → Ad) : Option Nat → AV
  | none => .none
  | some p => .obj (A p).s
/-- a node is laid -/
def StAt (I : Nat → Int) (A : Nat → Ad) (T : Nat → Nd) (σ : Store) (i : Nat) : Prop :=
  σ[(A i).s]? = some (.inst 253 (A i).d) ∧ σ[(A i).d]? = some (.attrs (sfs (I i) (T i).w (A i).k (parV A (T i).par) (A i).q (T i).act (T i).lw (T i).df))
def Ent (A : Nat → Ad) (S : Nat → Prop) (σ : Store) (p : Nat × Int × Nat) : Prop := S p.2.2 ∧ σ[p.1]? = some (.tup [.int p.2.1, .obj (A p.2.2).s])
def aheadB (I : Nat → Int) (x y : Int × Nat) : Bool := decide (x.1 < y.1 ∨ x.1 = y.1 ∧ I x.2 < I y.2)
def posR (I : Nat → Int) (x : Int × Nat) (q : List (Int × Nat)) : Nat → Nat
  | 0 => 0
  | n + 1 => match q[n]? with
    | some y => if aheadB I x y then posR I x q n else n + 1
    | none => n + 1
def ins (I : Nat → Int) (x : Int × Nat) (q : List (Int × Nat)) : List (Int × Nat) := q.take (posR I x q q.length) ++ x :: q.drop (posR I x q q.length)
theorem ins_length {I : Nat → Int} {x : Int × Nat} {q : List (Int × Nat)} : (ins I x q).length = q.length + 1 := by
  unfold ins; simp only [List.length_append, List.length_cons, List.length_take, List.length_drop]; omega

def qv (z : List (Nat × Int × Nat)) : AO := .list (z.map fun p => .obj p.1)
def chV (A : Nat → Ad) (ch : List Nat) : AO := .list (ch.map fun j => .obj (A j).s)
structure TreeOk (I : Nat → Int) (A : Nat → Ad) (T : Nat → Nd) (S : Nat → Prop) (N : Nat) (σ : Store) : Prop where
  st : ∀ i, S i → StAt I A T σ i
  qs : ∀ i, S i → ∃ z : List (Nat × Int × Nat), σ[(A i).q]? = some (qv z) ∧ z.map (·.2) = (T i).q ∧ ∀ p ∈ z, Ent A S σ p
  ql : ∀ i, S i → (T i).q.length ≤ N
  ks : ∀ i, S i → σ[(A i).k]? = some (chV A (T i).ch)
  kl : ∀ i, S i → (T i).ch.length ≤ N
  kc : ∀ i, S i → ∀ j ∈ (T i).ch, S j
  pr : ∀ i, S i → ∀ p, (T i).par = some p → S p
  nb : N ≤ 400
  wt : ∀ i, S i → 0 < (T i).w ∧ (T i).w ≤ 256
  dd : ∀ i j, S i → S j → i ≠ j → (A i).d ≠ (A j).d
  qq : ∀ i j, S i → S j → i ≠ j → (A i).q ≠ (A j).q
  kk : ∀ i j, S i → S j → i ≠ j → (A i).k ≠ (A j).k
  kq : ∀ i j, S i → S j → (A i).k ≠ (A j).q
def dom (A : Nat → Ad) (S : Nat → Prop) (a : Nat) : Prop := ∃ i, S i ∧ (a = (A i).d ∨ a = (A i).q ∨ a = (A i).k)
def Keep (D : Nat → Prop) (σ σ' : Store) : Prop := ∀ a o, ¬ D a → σ[a]? = some o → σ'[a]? = some o
theorem Keep.refl (D : Nat → Prop) (σ : Store) : Keep D σ σ := fun _ _ _ h => h
theorem Keep.trans {D : Nat → Prop} {a b c : Store} (h : Keep D a b) (h' : Keep D b c) : Keep D a c := fun x o n e => h' x o n (h x o n e)
theorem Keep.set {D : Nat → Prop} {σ τ : Store} {a : Nat} {o : AO} (h : Keep D σ τ) (ha : D a) : Keep D σ (τ.set a o) := fun x _ n e => get_set_ne (fun q => n (q ▸ ha)) (h x _ n e)
theorem Keep.app {D : Nat → Prop} {σ τ l : Store} (h : Keep D σ τ) : Keep D σ (τ ++ l) := fun x _ n e => get_app (h x _ n e)
theorem Keep.wide {D D' : Nat → Prop} {σ τ : Store} (h : Keep D σ τ) (hd : ∀ a, D a → D' a) : Keep D' σ τ := fun x o n e => h x o (fun q => n (hd x q)) e


section
variable {I : Nat → Int} {A : Nat → Ad} {T : Nat → Nd} {S : Nat → Prop} {N : Nat} {σ : Store}
theorem TreeOk.ext (h : TreeOk I A T S N σ) {τ : Store} (x : ∀ (a : Nat) (o : AO), σ[a]? = some o → τ[a]? = some o) : TreeOk I A T S N τ where
  st := fun i hi => ⟨x _ _ (h.st i hi).1, x _ _ (h.st i hi).2⟩
  qs := fun i hi => (h.qs i hi).imp fun _ e => ⟨x _ _ e.1, e.2.1, fun p hp => ⟨(e.2.2 p hp).1, x _ _ (e.2.2 p hp).2⟩⟩
  ql := h.ql
  ks := fun i hi => x _ _ (h.ks i hi)
  kl := h.kl
  kc := h.kc
  pr := h.pr
  nb := h.nb
  wt := h.wt
  dd := h.dd
  qq := h.qq
  kk := h.kk
  kq := h.kq
theorem TreeOk.app (h : TreeOk I A T S N σ) (l : Store) : TreeOk I A T S N (σ ++ l) := h.ext fun _ _ e => get_app e
theorem TreeOk.eqT (h : TreeOk I A T S N σ) {T' : Nat → Nd} (e : T = T') : TreeOk I A T' S N σ := e ▸ h
theorem TreeOk.more (h : TreeOk I A T S N σ) {M : Nat} (hM : N ≤ M) (hM' : M ≤ 400) : TreeOk I A T S M σ :=
  ⟨h.st, h.qs, fun i hi => Nat.le_trans (h.ql i hi) hM, h.ks, fun i hi => Nat.le_trans (h.kl i hi) hM, h.kc, h.pr, hM', h.wt, h.dd, h.qq, h.kk, h.kq⟩
theorem TreeOk.dom_lt (h : TreeOk I A T S N σ) {a : Nat} (hd : dom A S a) : a < σ.length := by
  obtain ⟨i, hi, q⟩ := hd
  obtain ⟨_, e⟩ := h.st i hi
  obtain ⟨z, e', _⟩ := h.qs i hi
  have e'' := h.ks i hi
  rcases q with rfl | rfl | rfl
  · exact lt_of_get e
  · exact lt_of_get e'
  · exact lt_of_get e''
theorem TreeOk.out (h : TreeOk I A T S N σ) {a : Nat} {o : AO} (ho : kind o ≠ 0 ∧ kind o ≠ 5) (e : σ[a]? = some o) : ¬ dom A S a := fun ⟨i, hi, q⟩ => by
  obtain ⟨_, e1⟩ := h.st i hi
  obtain ⟨z, e', _⟩ := h.qs i hi
  have e'' := h.ks i hi
  rcases q with rfl | rfl | rfl
  · rw [e1] at e; cases e; exact ho.2 rfl
  · rw [e'] at e; cases e; exact ho.1 rfl
  · rw [e''] at e; cases e; exact ho.1 rfl
theorem TreeOk.keepT (h : TreeOk I A T S N σ) {τ : Store} (k : Keep (dom A S) σ τ) {a : Nat} {o : AO} (ho : kind o ≠ 0 ∧ kind o ≠ 5) (e : σ[a]? = some o) : τ[a]? = some o := k _ _ (h.out ho e) e
/-- an update elsewhere -/
theorem TreeOk.set_out (h : TreeOk I A T S N σ) {a : Nat} {o : AO} (ho : ∀ C d, σ[a]? ≠ some (.inst C d)) (ht : ∀ xs, σ[a]? ≠ some (.tup xs)) (hd : ¬ dom A S a) : TreeOk I A T S N (σ.set a o) where
  st := fun i hi => ⟨get_set_ne (fun e => ho _ _ (e ▸ (h.st i hi).1)) (h.st i hi).1, get_set_ne (fun q => hd ⟨i, hi, .inl q⟩) (h.st i hi).2⟩
  qs := fun i hi => (h.qs i hi).imp fun _ e => ⟨get_set_ne (fun q => hd ⟨i, hi, .inr (.inl q)⟩) e.1, e.2.1, fun p hp => ⟨(e.2.2 p hp).1, get_set_ne (fun q => ht _ (q ▸ (e.2.2 p hp).2)) (e.2.2 p hp).2⟩⟩
  ql := h.ql
  ks := fun i hi => get_set_ne (fun q => hd ⟨i, hi, .inr (.inr q)⟩) (h.ks i hi)
  kl := h.kl
  kc := h.kc
  pr := h.pr
  nb := h.nb
  wt := h.wt
  dd := h.dd
  qq := h.qq
  kk := h.kk
  kq := h.kq
/-- a list elsewhere changes -/
theorem TreeOk.set_list (h : TreeOk I A T S N σ) {a : Nat} {o : AO} {xs : List AV} (e : σ[a]? = some (.list xs)) (hd : ¬ dom A S a) : TreeOk I A T S N (σ.set a o) :=
  h.set_out (fun _ _ q => by rw [e] at q; cases q) (fun _ q => by rw [e] at q; cases q) hd
/-- a node's queue changes -/
theorem TreeOk.set_q (h : TreeOk I A T S N σ) {i : Nat} (hi : S i) {z : List (Nat × Int × Nat)} (hz : ∀ p ∈ z, Ent A S σ p) (hl : z.length ≤ N) : TreeOk I A (upd T i { T i with q := z.map (·.2) }) S N (σ.set (A i).q (qv z)) := by
  obtain ⟨z0, e0, _, _⟩ := h.qs i hi
  have keepT : ∀ {t : Nat} {xs : List AV}, σ[t]? = some (.tup xs) → (σ.set (A i).q (qv z))[t]? = some (.tup xs) := fun e => get_set_ne (ne_of_get e0 e (by nofun)) e
  have same : ∀ j, (upd T i { T i with q := z.map (·.2) } j).w = (T j).w ∧ (upd T i { T i with q := z.map (·.2) } j).act = (T j).act ∧ (upd T i { T i with q := z.map (·.2) } j).lw = (T j).lw ∧ (upd T i { T i with q := z.map (·.2) } j).df = (T j).df ∧ (upd T i { T i with q := z.map (·.2) } j).ch = (T j).ch ∧ (upd T i { T i with q := z.map (·.2) } j).par = (T j).par := by
    intro j; unfold upd; split
    · rename_i q; subst q; exact ⟨rfl, rfl, rfl, rfl, rfl, rfl⟩
    · exact ⟨rfl, rfl, rfl, rfl, rfl, rfl⟩
  refine ⟨fun j hj => ?_, fun j hj => ?_, fun j hj => ?_, fun j hj => ?_, fun j hj => ?_, fun j hj => ?_, fun j hj => ?_, h.nb, fun j hj => ?_, h.dd, h.qq, h.kk, h.kq⟩
  · obtain ⟨e1, e2⟩ := h.st j hj
    obtain ⟨s1, s2, s3, s4, s5, s6⟩ := same j
    unfold StAt
    rw [s1, s2, s3, s4, s6]
    exact ⟨get_set_ne (ne_of_get e0 e1 (by nofun)) e1, get_set_ne (ne_of_get e0 e2 (by nofun)) e2⟩
  · by_cases q : j = i
    · subst q
      rw [upd_eq]
      exact ⟨z, get_set_eq e0, rfl, fun p hp => ⟨(hz p hp).1, keepT (hz p hp).2⟩⟩
    · rw [upd_ne q]
      obtain ⟨z', e', em, ha⟩ := h.qs j hj
      exact ⟨z', get_set_ne (h.qq i j hi hj (Ne.symm q)) e', em, fun p hp => ⟨(ha p hp).1, keepT (ha p hp).2⟩⟩
  · by_cases q : j = i
    · subst q; rw [upd_eq]; simpa using hl
    · rw [upd_ne q]; exact h.ql j hj
  · rw [(same j).2.2.2.2.1]; exact get_set_ne (Ne.symm (h.kq j i hj hi)) (h.ks j hj)
  · rw [(same j).2.2.2.2.1]; exact h.kl j hj
  · rw [(same j).2.2.2.2.1]; exact h.kc j hj
  · rw [(same j).2.2.2.2.2]; exact h.pr j hj
  · rw [(same j).1]; exact h.wt j hj
/-- a node's list of heirs changes -/
theorem TreeOk.set_k (h : TreeOk I A T S N σ) {i : Nat} (hi : S i) {c : List Nat} (hc : ∀ j ∈ c, S j) (hl : c.length ≤ N) : TreeOk I A (upd T i { T i with ch := c }) S N (σ.set (A i).k (chV A c)) := by
  have e0 := h.ks i hi
  have same : ∀ j, (upd T i { T i with ch := c } j).w = (T j).w ∧ (upd T i { T i with ch := c } j).act = (T j).act ∧ (upd T i { T i with ch := c } j).lw = (T j).lw ∧ (upd T i { T i with ch := c } j).df = (T j).df ∧ (upd T i { T i with ch := c } j).q = (T j).q ∧ (upd T i { T i with ch := c } j).par = (T j).par := by
    intro j; unfold upd; split
    · rename_i q; subst q; exact ⟨rfl, rfl, rfl, rfl, rfl, rfl⟩
    · exact ⟨rfl, rfl, rfl, rfl, rfl, rfl⟩
  refine ⟨fun j hj => ?_, fun j hj => ?_, fun j hj => ?_, fun j hj => ?_, fun j hj => ?_, fun j hj => ?_, fun j hj => ?_, h.nb, fun j hj => ?_, h.dd, h.qq, h.kk, h.kq⟩
  · obtain ⟨e1, e2⟩ := h.st j hj
    obtain ⟨s1, s2, s3, s4, s5, s6⟩ := same j
    unfold StAt
    rw [s1, s2, s3, s4, s6]
    exact ⟨get_set_ne (ne_of_get e0 e1 (by nofun)) e1, get_set_ne (ne_of_get e0 e2 (by nofun)) e2⟩
  · obtain ⟨z', e', em, ha⟩ := h.qs j hj
    rw [(same j).2.2.2.2.1]
    exact ⟨z', get_set_ne (h.kq i j hi hj) e', em, fun p hp => ⟨(ha p hp).1, get_set_ne (ne_of_get e0 (ha p hp).2 (by nofun)) (ha p hp).2⟩⟩
  · rw [(same j).2.2.2.2.1]; exact h.ql j hj
  · by_cases q : j = i
    · subst q; rw [upd_eq]; exact get_set_eq e0
    · rw [upd_ne q]; exact get_set_ne (h.kk i j hi hj (Ne.symm q)) (h.ks j hj)
  · by_cases q : j = i
    · subst q; rw [upd_eq]; exact hl
    · rw [upd_ne q]; exact h.kl j hj
  · by_cases q : j = i
    · subst q; rw [upd_eq]; exact hc
    · rw [upd_ne q]; exact h.kc j hj
  · rw [(same j).2.2.2.2.2]; exact h.pr j hj
  · rw [(same j).1]; exact h.wt j hj
/-- a node's numbers change -/
theorem TreeOk.set_d (h : TreeOk I A T S N σ) {i : Nat} (hi : S i) {w lw df : Int} {act : Bool} {par : Option Nat} (hw : 0 < w ∧ w ≤ 256) (hpar : ∀ p, par = some p → S p) : TreeOk I A (upd T i { T i with w := w, act := act, lw := lw, df := df, par := par }) S N (σ.set (A i).d (.attrs (sfs (I i) w (A i).k (parV A par) (A i).q act lw df))) := by
  obtain ⟨_, e0⟩ := h.st i hi
  have same : ∀ j, (upd T i { T i with w := w, act := act, lw := lw, df := df, par := par } j).q = (T j).q ∧ (upd T i { T i with w := w, act := act, lw := lw, df := df, par := par } j).ch = (T j).ch := by
    intro j; unfold upd; split
    · rename_i q; subst q; exact ⟨rfl, rfl⟩
    · exact ⟨rfl, rfl⟩
  refine ⟨fun j hj => ?_, fun j hj => ?_, fun j hj => ?_, fun j hj => ?_, fun j hj => ?_, fun j hj => ?_, fun j hj => ?_, h.nb, fun j hj => ?_, h.dd, h.qq, h.kk, h.kq⟩
  · obtain ⟨e1, e2⟩ := h.st j hj
    refine ⟨get_set_ne (ne_of_get e0 e1 (by nofun)) e1, ?_⟩
    by_cases q : j = i
    · subst q; rw [upd_eq]; exact get_set_eq e0
    · rw [upd_ne q]; exact get_set_ne (h.dd i j hi hj (Ne.symm q)) e2
  · obtain ⟨z', e', em, ha⟩ := h.qs j hj
    rw [(same j).1]
    exact ⟨z', get_set_ne (ne_of_get e0 e' (by unfold qv; nofun)) e', em, fun p hp => ⟨(ha p hp).1, get_set_ne (ne_of_get e0 (ha p hp).2 (by nofun)) (ha p hp).2⟩⟩
  · rw [(same j).1]; exact h.ql j hj
  · rw [(same j).2]; exact get_set_ne (ne_of_get e0 (h.ks j hj) (by unfold chV; nofun)) (h.ks j hj)
  · rw [(same j).2]; exact h.kl j hj
  · rw [(same j).2]; exact h.kc j hj
  · by_cases q : j = i
    · subst q; rw [upd_eq]; exact hpar
    · rw [upd_ne q]; exact h.pr j hj
  · by_cases q : j = i
    · subst q; rw [upd_eq]; exact hw
    · rw [upd_ne q]; exact h.wt j hj
/-- a new node -/
theorem TreeOk.grow (h : TreeOk I A T S N σ) {τ : Store} {c s d k q : Nat} {w : Int} (hc : ¬ S c) (hk : ∀ (a : Nat) (o : AO), σ[a]? = some o → τ[a]? = some o) (hd : σ.length ≤ d) (hkk : σ.length ≤ k) (hqq : σ.length ≤ q) (hkq : k ≠ q)
    (e1 : τ[s]? = some (.inst 253 d)) (e2 : τ[d]? = some (.attrs (sfs (I c) w k .none q true 0 0))) (e3 : τ[k]? = some (.list [])) (e4 : τ[q]? = some (.list [])) (hw : 1 ≤ w ∧ w ≤ 256) :
    TreeOk I (upd A c ⟨s, d, k, q⟩) (upd T c ⟨w, true, 0, 0, [], [], none⟩) (fun i => S i ∨ i = c) N τ := by
  have lt : ∀ {i}, S i → (A i).d < σ.length ∧ (A i).q < σ.length ∧ (A i).k < σ.length := fun hi => by
    obtain ⟨_, e⟩ := h.st _ hi
    obtain ⟨_, e', _⟩ := h.qs _ hi
    have e'' := h.ks _ hi
    exact ⟨lt_of_get e, lt_of_get e', lt_of_get e''⟩
  have ne : ∀ {i}, S i → i ≠ c := fun hi q => hc (q ▸ hi)
  have ent : ∀ p, Ent A S σ p → Ent (upd A c ⟨s, d, k, q⟩) (fun i => S i ∨ i = c) τ p := fun p hp => by
    refine ⟨.inl hp.1, ?_⟩
    rw [upd_ne (ne hp.1)]; exact hk _ _ hp.2
  have hpar : ∀ i, S i → parV (upd A c ⟨s, d, k, q⟩) (T i).par = parV A (T i).par := fun i hi => by
    cases hq : (T i).par with
    | none => rfl
    | some p => show AV.obj (upd A c ⟨s, d, k, q⟩ p).s = _; rw [upd_ne (ne (h.pr i hi p hq))]; rfl
  have hch : ∀ i, S i → chV (upd A c ⟨s, d, k, q⟩) (T i).ch = chV A (T i).ch := fun i hi => by
    unfold chV; congr 1; apply List.map_congr_left; intro j hj; rw [upd_ne (ne (h.kc i hi j hj))]
  refine ⟨fun i hi => ?_, fun i hi => ?_, fun i hi => ?_, fun i hi => ?_, fun i hi => ?_, fun i hi => ?_, fun i hi => ?_, h.nb, fun i hi => ?_, fun i j hi hj hij => ?_, fun i j hi hj hij => ?_, fun i j hi hj hij => ?_, fun i j hi hj => ?_⟩
  · rcases hi with hi | rfl
    · unfold StAt; rw [upd_ne (ne hi), upd_ne (ne hi), hpar i hi]
      exact ⟨hk _ _ (h.st i hi).1, hk _ _ (h.st i hi).2⟩
    · unfold StAt; rw [upd_eq, upd_eq]; exact ⟨e1, e2⟩
  · rcases hi with hi | rfl
    · rw [upd_ne (ne hi), upd_ne (ne hi)]
      obtain ⟨z, a, b, c⟩ := h.qs i hi
      exact ⟨z, hk _ _ a, b, fun p hp => ent p (c p hp)⟩
    · rw [upd_eq, upd_eq]; exact ⟨[], e4, rfl, fun p hp => by cases hp⟩
  · rcases hi with hi | rfl
    · rw [upd_ne (ne hi)]; exact h.ql i hi
    · rw [upd_eq]; exact Nat.zero_le _
  · rcases hi with hi | rfl
    · rw [upd_ne (ne hi), upd_ne (ne hi), hch i hi]; exact hk _ _ (h.ks i hi)
    · rw [upd_eq, upd_eq]; exact e3
  · rcases hi with hi | rfl
    · rw [upd_ne (ne hi)]; exact h.kl i hi
    · rw [upd_eq]; exact Nat.zero_le _
  · rcases hi with hi | rfl
    · rw [upd_ne (ne hi)]; exact fun j hj => .inl (h.kc i hi j hj)
    · rw [upd_eq]; intro j hj; cases hj
  · rcases hi with hi | rfl
    · rw [upd_ne (ne hi)]; exact fun p hp => .inl (h.pr i hi p hp)
    · rw [upd_eq]; intro p hp; cases hp
  · rcases hi with hi | rfl
    · rw [upd_ne (ne hi)]; exact h.wt i hi
    · rw [upd_eq]; exact ⟨by show 0 < w; omega, hw.2⟩
  all_goals
    rcases hi with hi | rfl <;> rcases hj with hj | rfl
  · rw [upd_ne (ne hi), upd_ne (ne hj)]; exact h.dd i j hi hj hij
  · rw [upd_eq, upd_ne (ne hi)]; have := lt hi; show _ ≠ d; omega
  · rw [upd_eq, upd_ne (ne hj)]; have := lt hj; show d ≠ _; omega
  · exact absurd rfl hij
  · rw [upd_ne (ne hi), upd_ne (ne hj)]; exact h.qq i j hi hj hij
  · rw [upd_eq, upd_ne (ne hi)]; have := lt hi; show _ ≠ q; omega
  · rw [upd_eq, upd_ne (ne hj)]; have := lt hj; show q ≠ _; omega
  · exact absurd rfl hij
  · rw [upd_ne (ne hi), upd_ne (ne hj)]; exact h.kk i j hi hj hij
  · rw [upd_eq, upd_ne (ne hi)]; have := lt hi; show _ ≠ k; omega
  · rw [upd_eq, upd_ne (ne hj)]; have := lt hj; show k ≠ _; omega
  · exact absurd rfl hij
  · rw [upd_ne (ne hi), upd_ne (ne hj)]; exact h.kq i j hi hj
  · rw [upd_eq, upd_ne (ne hi)]; have := lt hi; show _ ≠ q; omega
  · rw [upd_eq, upd_ne (ne hj)]; have := lt hj; show k ≠ _; omega
  · rw [upd_eq]; exact hkq
end

/-! a turn -/
inductive Path (T : Nat → Nd) : Nat → List Nat → Nat → Prop
  | leaf {p j : Nat} {l : Int} {r : List (Int × Nat)} (hq : (T p).q = (l, j) :: r) (ha : (T j).act = true) : Path T p [j] j
  | node {p j f : Nat} {l : Int} {r : List (Int × Nat)} {js : List Nat} (hq : (T p).q = (l, j) :: r) (ha : (T j).act = false) (h : Path T j js f) : Path T p (j :: js) f
def pop1 (T : Nat → Nd) (p : Nat) : Nat → Nd := upd T p { T p with q := (T p).q.tail }
def serve (I : Nat → Int) (T : Nat → Nd) (p j : Nat) : Nat → Nd :=
  let l := ((T p).q.headD (0, 0)).1
  upd (upd T j { T j with df := (256 + (T j).df) % (T j).w }) p { T p with lw := l, q := ins I (l + (256 + (T j).df) / (T j).w, j) (T p).q.tail }
def eff (I : Nat → Int) (T : Nat → Nd) : Nat → List Nat → (Nat → Nd)
  | _, [] => T
  | p, j :: js => serve I (eff I T j js) p j
theorem serve_upd {I : Nat → Int} {T : Nat → Nd} {p j k : Nat} {n : Nd} (h1 : k ≠ p) (h2 : k ≠ j) : serve I (upd T k n) p j = upd (serve I T p j) k n := by
  unfold serve
  rw [upd_ne (Ne.symm h1), upd_ne (Ne.symm h2)]
  rw [upd_comm h2, upd_comm h1]
theorem eff_upd {I : Nat → Int} {T : Nat → Nd} {k : Nat} {n : Nd} : ∀ {js : List Nat} {p : Nat}, k ∉ p :: js → eff I (upd T k n) p js = upd (eff I T p js) k n
  | [], p, _ => rfl
  | j :: js, p, h => by
    have h1 : k ≠ p := fun e => h (e ▸ List.mem_cons_self)
    have h2 : k ∉ j :: js := fun e => h (List.mem_cons_of_mem _ e)
    have h3 : k ≠ j := fun e => h2 (e ▸ List.mem_cons_self)
    rw [eff, eff_upd h2, serve_upd h1 h3, eff]
theorem eff_out {I : Nat → Int} {T : Nat → Nd} {k : Nat} : ∀ {js : List Nat} {p : Nat}, k ∉ p :: js → eff I T p js k = T k
  | [], p, _ => rfl
  | j :: js, p, h => by
    have h1 : k ≠ p := fun e => h (e ▸ List.mem_cons_self)
    have h2 : k ∉ j :: js := fun e => h (List.mem_cons_of_mem _ e)
    have h3 : k ≠ j := fun e => h2 (e ▸ List.mem_cons_self)
    rw [eff, serve, upd_ne h1, upd_ne h3, eff_out h2]
theorem Path.upd {T : Nat → Nd} {k : Nat} {n : Nd} {p f : Nat} {js : List Nat} (h : Path T p js f) : k ∉ p :: js → Path (upd T k n) p js f := by
  induction h with
  | leaf hq ha =>
    intro hk
    simp only [List.mem_cons, List.not_mem_nil, or_false, not_or] at hk
    exact .leaf (by rw [upd_ne (Ne.symm hk.1)]; exact hq) (by rw [upd_ne (Ne.symm hk.2)]; exact ha)
  | node hq ha h ih =>
    intro hk
    simp only [List.mem_cons, not_or] at hk
    obtain ⟨h1, h3, h4⟩ := hk
    exact .node (by rw [upd_ne (Ne.symm h1)]; exact hq) (by rw [upd_ne (Ne.symm h3)]; exact ha) (ih (by simp only [List.mem_cons, not_or]; exact ⟨h3, h4⟩))

theorem lt_blt {a b : Nat} (h : Nat.blt a b = true) : a < b := Nat.blt_eq.mp h
section
variable {X : IX} {γ : List (Str × Nat)} {ρ l : Loc} {σ : Store} {Q : AV → Store → Prop} {K : KS}
theorem u_tup {n : Nat} {xs : List AV} (e : σ[n]? = some (.tup xs)) : unpackM (.obj n) σ = some xs := by simp only [unpackM, e]
theorem ex_lst {n : Nat} {xs : List AV} {R : Nat → Prop} (e : σ[n]? = some (.list xs)) (h : R n) : ∃ m ys, AV.obj n = .obj m ∧ σ[m]? = some (.list ys) ∧ R m := ⟨n, xs, rfl, e, h⟩
theorem hand_int {i : Int} {R : Prop} (h : R) : handed (.int i) = true ∧ R := ⟨rfl, h⟩
theorem lt_lim2 {a b : AV} {R : Prop} (h : R) : [a, b].length < lim ∧ R := ⟨by show 2 < 100000; omega, h⟩
theorem ex_int {i : Int} {R : Int → Prop} (h : R i) : ∃ j, AV.int i = .int j ∧ R j := ⟨i, rfl, h⟩
theorem t_list2 {n : Nat} {xs : List AV} {R : Bool → Prop} (e : σ[n]? = some (.list xs)) (h : R (decide (xs.length ≠ 0))) : ∃ b, truthy σ (.obj n) = some b ∧ R b := by
  refine t_list e ?_
  have : (xs.length != 0) = decide (xs.length ≠ 0) := by by_cases e : xs.length = 0 <;> simp [e]
  rw [this]; exact h
theorem t_rol2 {n : Nat} {xs : List AV} {o : Obj} {R : Bool → Prop} (e : σ[n]? = some (.rol xs o)) (h : R (decide (xs.length ≠ 0))) : ∃ b, truthy σ (.obj n) = some b ∧ R b := by
  refine t_rol e ?_
  have : (xs.length != 0) = decide (xs.length ≠ 0) := by by_cases e : xs.length = 0 <;> simp [e]
  rw [this]; exact h
theorem and_rfl' {α : Type} {a : α} {R : Prop} (h : R) : a = a ∧ R := ⟨rfl, h⟩
theorem s_while1 {c : CE} {b : CB} (hW : 2 ≤ X.W) (h : W (evalT X γ ρ c σ) fun v σ => v = true ∧ WS (execs X γ b ρ σ) { nxt := fun ρ σ => W (evalT X γ ρ c σ) fun v σ => v = false ∧ K.nxt ρ σ, cont := fun _ _ => False, brk := fun _ _ => False, ret := fun _ _ => False }) : WS (exec X γ (.whil c b) ρ σ) K := by
  rw [exec]
  obtain ⟨w, hw⟩ : ∃ w, X.W = w + 2 := ⟨X.W - 2, by omega⟩
  rw [hw, loopW]
  refine WS.then' (W.mono h fun v σ ⟨hv, h⟩ => ?_)
  subst hv
  simp only [if_true]
  cases q : execs X γ b ρ σ with
  | nxt ρ' σ' =>
    rw [q] at h
    dsimp only
    rw [loopW]
    exact WS.then' (W.mono h fun v σ ⟨hv, h⟩ => by subst hv; exact h)
  | _ => rw [q] at h; exact h.elim
theorem s_while1M {c : CE} {b : CB} (M : Loc → Store → Prop) (hW : 2 ≤ X.W) (h : W (evalT X γ ρ c σ) fun v σ => v = true ∧ WS (execs X γ b ρ σ) { nxt := M, cont := fun _ _ => False, brk := fun _ _ => False, ret := fun _ _ => False })
    (k : ∀ ρ σ, M ρ σ → W (evalT X γ ρ c σ) fun v σ => v = false ∧ K.nxt ρ σ) : WS (exec X γ (.whil c b) ρ σ) K :=
  s_while1 hW (W.mono h fun v σ h => ⟨h.1, WS.mono h.2 k (fun _ _ h => h) (fun _ _ h => h) (fun _ _ h => h)⟩)
theorem s_loop1 {it : It} {v : AV} {asg : AV → Loc → Store → RE Loc} {b : Loc → Store → RS} {w : Nat} (hW : 2 ≤ w) (e : nextIt it 0 σ = .item v σ) (h : W (asg v ρ σ) fun ρ σ => WS (b ρ σ) { nxt := fun ρ σ => nextIt it 1 σ = .stop ∧ K.nxt ρ σ, cont := fun _ _ => False, brk := fun _ _ => False, ret := K.ret }) : WS (loopF (nextIt it) asg b w 0 ρ σ) K := by
  obtain ⟨w, rfl⟩ : ∃ k, w = k + 2 := ⟨w - 2, by omega⟩
  rw [loopF, e]
  dsimp only
  refine WS.then' (W.mono h fun ρ σ h => ?_)
  cases q : b ρ σ with
  | nxt ρ' σ' =>
    rw [q] at h
    dsimp only
    rw [loopF, h.1]
    exact h.2
  | ret v ρ' σ' => rw [q] at h; exact h
  | _ => rw [q] at h; exact h.elim
end

/-- the tree as an object -/
structure PTr (tr td sd : Nat) (I : Nat → Int) (A : Nat → Ad) (T : Nat → Nd) (S : Nat → Prop) (N : Nat) (σ : Store) : Prop where
  ok : TreeOk I A T S N σ
  o : σ[tr]? = some (.inst 347 td)
  oa : σ[td]? = some (.attrs [("_root_stream", .obj (A 0).s), ("_streams", .obj sd), ("_maximum_streams", .int 1000)])
  od : ∃ es, σ[sd]? = some (.dict es) ∧ (∀ i, S i → es.lookup (I i) = some (.obj (A i).s)) ∧ (∀ k, (∀ i, S i → I i ≠ k) → es.lookup k = none) ∧ es.length ≤ N + 1
  ne : ∀ i, S i → (A i).d ≠ td
  pos : S 0
def domT (A : Nat → Ad) (S : Nat → Prop) (sd : Nat) (a : Nat) : Prop := dom A S a ∨ a = sd
section
variable {tr td sd : Nat} {I : Nat → Int} {A : Nat → Ad} {T : Nat → Nd} {S : Nat → Prop} {N : Nat} {σ : Store}
theorem PTr.td_out (h : PTr tr td sd I A T S N σ) : ¬ dom A S td := by
  rintro ⟨i, hi, q⟩
  rcases q with q | q | q
  · exact h.ne i hi q.symm
  · obtain ⟨z, e', _⟩ := h.ok.qs i hi
    exact ne_of_get h.oa e' (by unfold qv; nofun) q
  · exact ne_of_get h.oa (h.ok.ks i hi) (by unfold chV; nofun) q
theorem PTr.sd_out (h : PTr tr td sd I A T S N σ) : ¬ dom A S sd := by
  obtain ⟨es, e, _⟩ := h.od
  exact h.ok.out ⟨by simp [kind], by simp [kind]⟩ e
theorem PTr.tr_out (h : PTr tr td sd I A T S N σ) : ¬ dom A S tr := h.ok.out ⟨by simp [kind], by simp [kind]⟩ h.o
theorem PTr.step {T' : Nat → Nd} {σ' : Store} (h : PTr tr td sd I A T S N σ) (ok : TreeOk I A T' S N σ') (k : Keep (dom A S) σ σ') : PTr tr td sd I A T' S N σ' :=
  ⟨ok, k _ _ h.tr_out h.o, k _ _ h.td_out h.oa, h.od.imp fun es e => ⟨k _ _ h.sd_out e.1, e.2⟩, h.ne, h.pos⟩
theorem PTr.ext {τ : Store} (h : PTr tr td sd I A T S N σ) (x : ∀ (a : Nat) (o : AO), σ[a]? = some o → τ[a]? = some o) : PTr tr td sd I A T S N τ :=
  ⟨h.ok.ext x, x _ _ h.o, x _ _ h.oa, h.od.imp fun _ e => ⟨x _ _ e.1, e.2⟩, h.ne, h.pos⟩
theorem PTr.set_list (h : PTr tr td sd I A T S N σ) {a : Nat} {o : AO} {xs : List AV} (e : σ[a]? = some (.list xs)) (hd : ¬ dom A S a) : PTr tr td sd I A T S N (σ.set a o) :=
  ⟨h.ok.set_list e hd, get_set_ne (ne_kind e h.o rfl) h.o, get_set_ne (ne_kind e h.oa rfl) h.oa, h.od.imp fun es x => ⟨get_set_ne (ne_kind e x.1 rfl) x.1, x.2⟩, h.ne, h.pos⟩
theorem PTr.dom_lt (h : PTr tr td sd I A T S N σ) {a : Nat} (hd : domT A S sd a) : a < σ.length := by
  rcases hd with q | q
  · exact h.ok.dom_lt q
  · obtain ⟨es, x, _⟩ := h.od
    rw [q]; exact lt_of_get x
end
end Mini

end

section
set_option autoImplicit false
namespace Mini
open PySem
theorem filterMap_range {α : Type} (xs : List α) : ∀ b, b ≤ xs.length → (List.range b).filterMap (fun i => xs[i]?) = xs.take b
  | 0, _ => rfl
  | b + 1, h => by
    rw [List.range_succ, List.filterMap_append, filterMap_range xs b (by omega), List.take_add_one]
    congr 1
theorem pick_to {α : Type} (xs : List α) (c : Int) (hc : 0 ≤ c) : pickA xs none (some c) none = xs.take c.toNat := by
  unfold pickA
  have hb : sliceBounds none (some c) none xs.length = (0, min c xs.length, 1) := by
    unfold sliceBounds
    simp only [Option.getD_none, if_neg (show ¬ c < 0 by omega)]
    rw [if_pos (by omega), if_pos (by omega)]
    congr 2
    omega
  rw [hb]
  have hr : sliceRange 0 (min c (xs.length : Int)) 1 = List.range (min c (xs.length : Int)).toNat := by
    unfold sliceRange
    by_cases h : (0 : Int) < min c xs.length
    · simp only [show (1 : Int) > 0 by omega, if_true, if_pos h]
      have : (min c (xs.length : Int) - 0 + 1 - 1) / 1 = min c (xs.length : Int) := by omega
      rw [this]
      have : (fun (k : Nat) => ((0 : Int) + 1 * (k : Int)).toNat) = id := by funext k; simp
      rw [this, List.map_id]
    · simp only [show (1 : Int) > 0 by omega, if_true, if_neg h]
      have : (min c (xs.length : Int)).toNat = 0 := by omega
      rw [this]; rfl
  dsimp only
  rw [hr, filterMap_range xs _ (by omega)]
  rcases Int.le_total c xs.length with h | h
  · rw [Int.min_eq_left h]
  · rw [Int.min_eq_right h, List.take_of_length_le (by omega), List.take_of_length_le (by omega)]
theorem pick_all {α : Type} (xs : List α) : pickA xs none none none = xs := by
  have h := pick_to xs xs.length (by omega)
  have : pickA xs none none none = pickA xs none (some (xs.length : Int)) none := by
    unfold pickA sliceBounds
    simp only [Option.getD_none]
    rw [if_pos (by omega), if_pos (by omega), if_pos (by omega), if_neg (by omega)]
    congr 2
    omega
  rw [this, h]; simp

section
variable {X : IX} {γ : List (Str × Nat)} {ρ l : Loc} {σ : Store} {Q : AV → Store → Prop} {K : KS}
theorem sl_to {n : Nat} {xs : List AV} {c : Int} (e : σ[n]? = some (.list xs)) (hc : 0 ≤ c) (hl : xs.length < lim) (h : Q (.obj σ.length) (σ ++ [.list (xs.take c.toNat)])) : W (sliceM (.obj n) .none (.int c) .none σ) Q := by
  show W (match σ[n]? with | some (.list xs) => allocL (pickA xs none (some c) none) σ | _ => .bad) Q
  rw [e]
  show W (allocL (pickA xs none (some c) none) σ) Q
  rw [pick_to xs c hc]
  exact l_alloc (Nat.lt_of_le_of_lt (by rw [List.length_take]; omega) hl) h
theorem sl_all {n : Nat} {xs : List AV} (e : σ[n]? = some (.list xs)) (hl : xs.length < lim) (h : Q (.obj σ.length) (σ ++ [.list xs])) : W (sliceM (.obj n) .none .none .none σ) Q := by
  show W (match σ[n]? with | some (.list xs) => allocL (pickA xs none none none) σ | _ => .bad) Q
  rw [e]
  show W (allocL (pickA xs none none none) σ) Q
  rw [pick_all]
  exact l_alloc hl h
theorem ex_r1 {b : Int} {R : List AV → Prop} (h : -100000 < b ∧ b < 100000) (hR : R (rangeUp 0 b)) : ∃ xs, rangeM [.int b] = some xs ∧ R xs := ⟨_, range1 h, hR⟩
theorem ex_r2 {a b : Int} {R : List AV → Prop} (ha : -100000 < a ∧ a < 100000) (h : -100000 < b ∧ b < 100000) (hR : R (rangeUp a b)) : ∃ xs, rangeM [.int a, .int b] = some xs ∧ R xs := ⟨_, range2 ha h, hR⟩
theorem s_rangeF {a b : Int} {asg : AV → Loc → Store → RE Loc} {bd : Loc → Store → RS} {w : Nat} (I : Nat → Loc → Store → Prop) (N : Nat) (hN : (b - a).toNat = N) (hw : N < w) (h0 : I 0 ρ σ)
    (step : ∀ i ρ σ, i < N → I i ρ σ → W (asg (.int (a + i)) ρ σ) fun ρ σ => WS (bd ρ σ) { nxt := I (i + 1), cont := I (i + 1), brk := K.nxt, ret := K.ret })
    (stop : ∀ ρ σ, I N ρ σ → K.nxt ρ σ) : WS (loopF (nextIt (.items (rangeUp a b))) asg bd w 0 ρ σ) K :=
  s_loopF I N (fun i ρ σ hi h => ⟨_, _, nx_items (rangeUp_get (by omega)), step i ρ σ hi h⟩) (fun ρ σ h => ⟨nx_itemsE (by rw [rangeUp_len]; omega), stop ρ σ h⟩) w 0 ρ σ (by omega) (Nat.zero_le _) h0
theorem s_listF {n : Nat} {xs : List AV} {asg : AV → Loc → Store → RE Loc} {bd : Loc → Store → RS} {w : Nat} (I : Nat → Loc → Store → Prop) (hw : xs.length < w) (hx : ∀ i ρ σ, I i ρ σ → σ[n]? = some (.list xs)) (h0 : I 0 ρ σ)
    (step : ∀ i ρ σ v, xs[i]? = some v → I i ρ σ → W (asg v ρ σ) fun ρ σ => WS (bd ρ σ) { nxt := I (i + 1), cont := I (i + 1), brk := K.nxt, ret := K.ret })
    (stop : ∀ ρ σ, I xs.length ρ σ → K.nxt ρ σ) : WS (loopF (nextIt (.lst n)) asg bd w 0 ρ σ) K :=
  s_loopF I xs.length (fun i ρ σ hi h => ⟨_, _, nx_lst (hx i ρ σ h) (List.getElem?_eq_getElem hi), step i ρ σ _ (List.getElem?_eq_getElem hi) h⟩) (fun ρ σ h => ⟨nx_lstE (hx _ ρ σ h) (Nat.le_refl _), stop ρ σ h⟩) w 0 ρ σ (by omega) (Nat.zero_le _) h0
theorem wc_range {elt : CE} {t : CT} {a b : Int} {Q : List AV → Store → Prop} (N : Nat) (f : Nat → AV) (hN : (b - a).toNat = N) (hw : N < X.W)
    (he : ∀ i, i < N → W (assignT X γ [] t (.int (a + i)) σ) fun ρ' σ' => W (evalE X γ ρ' elt σ') fun v σ'' => v = f i ∧ σ'' = σ)
    (h : Q ((List.range N).map f) σ) : W (compLoop (nextIt (.items (rangeUp a b))) (fun v σ => (assignT X γ [] t v σ).bind fun ρ' σ => (evalIfs X γ ρ' .nil σ).bind fun b σ => if b then (evalE X γ ρ' elt σ).bind fun v σ => .ok (some v) σ else .ok none σ) X.W 0 [] σ) Q :=
  comp_pure f (fun i => .int (a + i)) hw (fun i hi => nx_items (rangeUp_get (by omega))) (nx_itemsE (by rw [rangeUp_len]; omega)) he h
theorem wc_list {elt : CE} {t : CT} {n : Nat} {xs : List AV} {Q : List AV → Store → Prop} (f : AV → AV) (e : σ[n]? = some (.list xs)) (hw : xs.length < X.W)
    (he : ∀ v ∈ xs, W (assignT X γ [] t v σ) fun ρ' σ' => W (evalE X γ ρ' elt σ') fun w σ'' => w = f v ∧ σ'' = σ)
    (h : Q (xs.map f) σ) : W (compLoop (nextIt (.lst n)) (fun v σ => (assignT X γ [] t v σ).bind fun ρ' σ => (evalIfs X γ ρ' .nil σ).bind fun b σ => if b then (evalE X γ ρ' elt σ).bind fun v σ => .ok (some v) σ else .ok none σ) X.W 0 [] σ) Q := by
  refine comp_pure (fun i => f (xs.getD i .none)) (fun i => xs.getD i .none) hw (fun i hi => ?_) (nx_lstE e (Nat.le_refl _)) (fun i hi => ?_) ?_
  · rw [nx_lst e (List.getElem?_eq_getElem hi), List.getD_eq_getElem?_getD, List.getElem?_eq_getElem hi]; rfl
  · refine he _ ?_
    rw [List.getD_eq_getElem?_getD, List.getElem?_eq_getElem hi]; exact List.getElem_mem hi
  · have : (List.range xs.length).map (fun i => f (xs.getD i .none)) = xs.map f := by
      apply List.ext_getElem
      · simp
      · intro i h1 h2
        simp at h1
        simp [List.getD_eq_getElem?_getD, h1]
    rw [this]; exact h
end
theorem mget {α : Type} {f : α → AV} {xs : List α} {i : Nat} {k : Int} (hk : k = i) (hi : i < xs.length) : (xs.map f)[k.toNat]? = some (f xs[i]) := by
  subst hk; rw [Int.toNat_natCast, List.getElem?_map, List.getElem?_eq_getElem hi]; rfl
/-- a call of a function with cells -/
theorem w_fnC {P : Prg} {n : Nat} {a : Addr} {args : List AV} {kw : List (Str × AV)} {fi : FnI} {binds : List (Str × AV)} {σ : Store} {Q : AV → Store → Prop} (cs : List Str) (γ : List (Str × Nat)) (ρ : Loc) (vs : List AO) (e : P.fn a = some fi) (eb : bindA fi.params fi.defs args kw = some binds) (ec : cellNames fi.names = cs)
    (eγ : cs.zip ((List.range cs.length).map (· + σ.length)) = γ) (eρ : (binds.filter fun p => !cs.contains p.1) = ρ) (ev : (cs.map fun x => AO.cell (binds.lookup x)) = vs)
    (h : WS (execs ⟨runF P n, P.cls, P.W⟩ γ fi.body ρ (σ ++ vs)) { nxt := fun _ σ => Q .none σ, brk := fun _ _ => False, cont := fun _ _ => False, ret := Q }) : W (runF P (n + 1) a args kw σ) Q := by
  refine w_fn e eb ?_
  have : enterM fi binds σ = (γ, ρ, σ ++ vs) := by simp only [enterM, ec, eγ, eρ, ev]
  rw [this]; exact h
theorem zip3 {a b c : Str} {n : Nat} : [a, b, c].zip ((List.range [a, b, c].length).map (· + n)) = [(a, n), (b, n + 1), (c, n + 2)] := by
  simp [List.range_succ, Nat.add_comm]
theorem ex_zip {n m : Nat} {xs ys : List AV} {σ : Store} {R : Nat → Nat → Prop} (e : σ[n]? = some (.list xs)) (e' : σ[m]? = some (.list ys)) (h : R n m) : ∃ a b xs ys, AV.obj n = .obj a ∧ AV.obj m = .obj b ∧ σ[a]? = some (.list xs) ∧ σ[b]? = some (.list ys) ∧ R a b := ⟨n, m, xs, ys, rfl, rfl, e, e', h⟩
theorem nx_zip {σ : Store} {n m i : Nat} {xs ys : List AV} {x y : AV} (e : σ[n]? = some (.list xs)) (e' : σ[m]? = some (.list ys)) (hx : xs[i]? = some x) (hy : ys[i]? = some y) : nextIt (.zip n m) i σ = .item (.obj σ.length) (σ ++ [.tup [x, y]]) := by
  simp only [nextIt, e, e', hx, hy]
theorem nx_zipE {σ : Store} {n m i : Nat} {xs ys : List AV} (e : σ[n]? = some (.list xs)) (e' : σ[m]? = some (.list ys)) (h : xs.length ≤ i ∨ ys.length ≤ i) : nextIt (.zip n m) i σ = .stop := by
  simp only [nextIt, e, e']
  rcases h with h | h
  · rw [List.getElem?_eq_none h]
  · rw [List.getElem?_eq_none h]
    cases xs[i]? <;> rfl
def Ext (σ τ : Store) : Prop := ∀ (a : Nat) (o : AO), σ[a]? = some o → τ[a]? = some o
theorem Ext.refl (σ : Store) : Ext σ σ := fun _ _ h => h
theorem Ext.trans {a b c : Store} (h : Ext a b) (h' : Ext b c) : Ext a c := fun x o e => h' x o (h x o e)
theorem Ext.app {σ τ l : Store} (h : Ext σ τ) : Ext σ (τ ++ l) := fun x o e => get_app (h x o e)
theorem Ext.set {σ τ : Store} {a : Nat} {o : AO} (h : Ext σ τ) (ha : σ.length ≤ a) : Ext σ (τ.set a o) := fun x _ e => get_set_ne (by have := lt_of_get e; omega) (h x _ e)
theorem len_of_get {σ : Store} {a : Nat} (h : a < σ.length) : ∃ o, σ[a]? = some o := ⟨_, List.getElem?_eq_getElem h⟩
theorem Ext.len {σ τ : Store} (h : Ext σ τ) : σ.length ≤ τ.length := by
  cases hs : σ.length with
  | zero => exact Nat.zero_le _
  | succ k =>
    obtain ⟨o, e⟩ := len_of_get (σ := σ) (a := k) (by omega)
    exact lt_of_get (h _ _ e)
/-- the first counts of the prices -/
def flatN (prs : List (Nat × List Int)) (cs : List Int) : Nat → List Int
  | 0 => []
  | n + 1 => flatN prs cs n ++ ((prs.getD n (0, [])).2).take (cs.getD n 0).toNat
end Mini

end

section
set_option autoImplicit false
namespace Mini
open PySem
/-! entries in order -/
def Lt (num : Nat → Int) (x y : Int × Nat) : Prop := x.1 < y.1 ∨ x.1 = y.1 ∧ num x.2 < num y.2
theorem ins_perm {I : Nat → Int} {x : Int × Nat} {q : List (Int × Nat)} : (ins I x q).Perm (x :: q) := by
  unfold ins
  have := (List.perm_middle (a := x) (l₁ := q.take (posR I x q q.length)) (l₂ := q.drop (posR I x q q.length)))
  rw [List.take_append_drop] at this
  exact this
theorem posR_spec {I : Nat → Int} {x : Int × Nat} {q : List (Int × Nat)} : ∀ {n : Nat}, n ≤ q.length → posR I x q n ≤ n ∧ (∀ i, posR I x q n ≤ i → i < n → ∀ y, q[i]? = some y → aheadB I x y = true) ∧ (0 < posR I x q n → ∀ y, q[posR I x q n - 1]? = some y → aheadB I x y = false)
  | 0, _ => ⟨Nat.le_refl _, fun i _ h => absurd h (Nat.not_lt_zero _), fun h => absurd h (Nat.lt_irrefl _)⟩
  | n + 1, h => by
    obtain ⟨a, b, c⟩ := posR_spec (I := I) (x := x) (q := q) (n := n) (by omega)
    unfold posR
    rw [List.getElem?_eq_getElem (by omega)]
    dsimp only
    by_cases hh : aheadB I x q[n] = true
    · rw [if_pos hh]
      refine ⟨by omega, fun i hi hi' y hy => ?_, c⟩
      by_cases e : i = n
      · subst e; rw [List.getElem?_eq_getElem (by omega)] at hy; cases hy; exact hh
      · exact b i hi (by omega) y hy
    · rw [if_neg hh]
      refine ⟨Nat.le_refl _, fun i hi hi' => by omega, fun _ y hy => ?_⟩
      rw [Nat.add_sub_cancel, List.getElem?_eq_getElem (by omega)] at hy
      cases hy
      exact Bool.eq_false_iff.mpr hh
theorem ins_sorted {I : Nat → Int} {x : Int × Nat} {q : List (Int × Nat)} (hs : q.Pairwise (Lt I)) (hx : ∀ y ∈ q, I x.2 ≠ I y.2) : (ins I x q).Pairwise (Lt I) := by
  obtain ⟨a, b, c⟩ := posR_spec (I := I) (x := x) (q := q) (Nat.le_refl _)
  unfold ins
  generalize posR I x q q.length = k at *
  have hlow : ∀ y ∈ q.take k, Lt I y x := by
    intro y hy
    obtain ⟨i, hi⟩ := List.getElem?_of_mem hy
    have hil := (List.getElem?_eq_some_iff.mp hi).1
    rw [List.length_take] at hil
    rw [List.getElem?_take, if_pos (by omega)] at hi
    have hk : k - 1 < q.length := by omega
    have h1 := c (by omega) _ (List.getElem?_eq_getElem hk)
    unfold aheadB at h1
    have h1 := of_decide_eq_false h1
    have hne := hx _ (List.getElem_mem hk)
    have hzx : Lt I q[k - 1] x := by unfold Lt; omega
    by_cases e : i = k - 1
    · subst e; rw [List.getElem?_eq_getElem hk] at hi; cases hi; exact hzx
    · obtain ⟨hi1, rfl⟩ := List.getElem?_eq_some_iff.mp hi
      have := List.pairwise_iff_getElem.mp hs i (k - 1) hi1 hk (by omega)
      unfold Lt at this hzx ⊢; omega
  have hhigh : ∀ y ∈ q.drop k, Lt I x y := by
    intro y hy
    obtain ⟨i, hi⟩ := List.getElem?_of_mem hy
    rw [List.getElem?_drop] at hi
    have hil := (List.getElem?_eq_some_iff.mp hi).1
    have := b (k + i) (by omega) hil y hi
    unfold aheadB at this
    have this := of_decide_eq_true this
    exact this
  rw [List.pairwise_append]
  refine ⟨hs.sublist (List.take_sublist _ _), ?_, ?_⟩
  · rw [List.pairwise_cons]
    exact ⟨hhigh, hs.sublist (List.drop_sublist _ _)⟩
  · intro y hy z hz
    rcases List.mem_cons.mp hz with rfl | hz
    · exact hlow y hy
    · have h1 := hlow y hy
      have h2 := hhigh z hz
      unfold Lt at h1 h2 ⊢; omega

end Mini

end

section
set_option autoImplicit false
namespace Mini
open PySem
/-! two weights that make a divisor of 256 together -/
structure Pair (a b n s : Int) : Prop where
  a1 : 1 ≤ a
  b1 : 1 ≤ b
  ab : a + b = n
  nd : ∃ c, 256 = n * c
  s0 : 0 ≤ s
  s3 : s ≤ 3
  sd : 0 < s → ∃ c, 256 = a * c
theorem Pair.a_le {a b n s : Int} (h : Pair a b n s) : a ≤ 256 ∧ b ≤ 256 ∧ n ≤ 256 ∧ 2 ≤ n := by
  obtain ⟨a1, b1, ab, ⟨c, hc⟩, _, _, _⟩ := h
  have hn : n ≤ 256 := by
    refine Int.not_lt.mp fun h => ?_
    by_cases h0 : c ≤ 0
    · have := Int.mul_nonpos_of_nonneg_of_nonpos (show 0 ≤ n by omega) h0; omega
    · have := Int.mul_le_mul (show (257 : Int) ≤ n by omega) (show (1 : Int) ≤ c by omega) (by omega) (by omega)
      omega
  omega
theorem Pair.cmp {a b n s : Int} (h : Pair a b n s) (i k : Int) : 256 * i / b < 256 * k / a ↔ i * a < k * b := by
  obtain ⟨a1, b1, ab, ⟨c, hc⟩, _, _, _⟩ := h
  have e1 := Int.mul_ediv_add_emod (256 * k) a
  have e2 := Int.mul_ediv_add_emod (256 * i) b
  have r0 := Int.emod_nonneg (256 * k) (show a ≠ 0 by omega)
  have r1 := Int.emod_lt_of_pos (256 * k) (show 0 < a by omega)
  have s0 := Int.emod_nonneg (256 * i) (show b ≠ 0 by omega)
  have s1 := Int.emod_lt_of_pos (256 * i) (show 0 < b by omega)
  generalize 256 * k / a = L at *
  generalize 256 * i / b = M at *
  generalize 256 * k % a = r at *
  generalize 256 * i % b = t at *
  have key : 256 * (i * a) - 256 * (k * b) = a * b * (M - L) + a * t - b * r := by
    have h1 : 256 * (i * a) = (b * M + t) * a := by rw [e2, Int.mul_assoc]
    have h2 : 256 * (k * b) = (a * L + r) * b := by rw [e1, Int.mul_assoc]
    rw [h1, h2, Int.add_mul, Int.add_mul, Int.mul_sub]
    have h3 : b * M * a = a * b * M := by rw [Int.mul_comm (b * M), ← Int.mul_assoc]
    have h4 : a * L * b = a * b * L := by rw [Int.mul_assoc, Int.mul_comm L, Int.mul_assoc]
    rw [h3, h4, Int.mul_comm t, Int.mul_comm r]; omega
  have hab : 0 < a * b := Int.mul_pos (by omega) (by omega)
  constructor
  · intro hlt
    refine Int.not_le.mp fun hle => ?_
    have h1 : a * b * (M - L) ≤ a * b * (-1) := Int.mul_le_mul_of_nonneg_left (by omega) (by omega)
    have h2 : 0 ≤ b * r := Int.mul_nonneg (by omega) r0
    have h3 : a * t ≤ a * (b - 1) := Int.mul_le_mul_of_nonneg_left (by omega) (by omega)
    rw [Int.mul_sub, Int.mul_one] at h3
    omega
  · intro hlt
    refine Int.not_le.mp fun hle => ?_
    have h2 : b * r ≤ b * (a - 1) := Int.mul_le_mul_of_nonneg_left (by omega) (by omega)
    rw [Int.mul_sub, Int.mul_one, Int.mul_comm b a] at h2
    have h3 : 0 ≤ a * t := Int.mul_nonneg (by omega) s0
    have hD : M - L = 0 := by
      refine Int.le_antisymm (Int.not_lt.mp fun hd => ?_) (by omega)
      have h1 : a * b * 1 ≤ a * b * (M - L) := Int.mul_le_mul_of_nonneg_left (by omega) (by omega)
      omega
    have hML : M = L := by omega
    subst hML
    have hsum : 256 * (k + i) = n * M + (r + t) := by rw [← ab, Int.add_mul]; omega
    have hdvd : n ∣ r + t := by
      have h1 : n ∣ 256 * (k + i) := ⟨c * (k + i), by rw [hc, Int.mul_assoc]⟩
      have h2 : n ∣ n * M := ⟨M, rfl⟩
      have := Int.dvd_sub h1 h2
      rw [hsum] at this
      have e : n * M + (r + t) - n * M = r + t := by omega
      rw [e] at this; exact this
    have hz : r + t = 0 := by
      refine Int.le_antisymm (Int.not_lt.mp fun hd => ?_) (by omega)
      have := Int.le_of_dvd hd hdvd
      omega
    have hr : r = 0 := by omega
    have ht : t = 0 := by omega
    subst hr ht
    rw [hD] at key
    simp at key
    omega

/-- the parent's turn of an heir's turn -/
def upI (t w n s : Int) (lower : Bool) : Int := if lower then (if t < s then t else s - (s - t) * n / w) else s + t * n / w + 1
theorem Pair.up_lo {a b n s t i : Int} (h : Pair a b n s) (hs : s ≤ t) (h1 : (t - s) * b ≤ i * a) (h2 : (i - 1) * a < (t - s) * b) : upI t a n s true = t + i := by
  unfold upI
  rw [if_pos rfl, if_neg (by omega)]
  have : (s - t) * n / a = -(t - s) - i := by
    have a1 := h.a1
    have hk : (s - t) * n = -((t - s) * b) + a * (-(t - s)) := by
      rw [← h.ab, Int.mul_add, show s - t = -(t - s) by omega, Int.neg_mul, Int.neg_mul, Int.mul_neg, Int.mul_comm a]; omega
    rw [hk, Int.add_mul_ediv_left _ _ (by omega)]
    generalize (t - s) * b = x at *
    have : -x / a = -i := by
      refine (Int.ediv_eq_iff_of_pos (by omega)).mpr ⟨?_, ?_⟩
      · rw [Int.neg_mul]; omega
      · rw [Int.neg_mul]; rw [Int.sub_mul, Int.one_mul] at h2; omega
    rw [this]; omega
  rw [this]; omega
theorem Pair.up_hi {a b n s i k : Int} (h : Pair a b n s) (h1 : i * a < k * b) (h2 : (k - 1) * b ≤ i * a) : upI i b n s false = s + i + k := by
  unfold upI
  rw [if_neg (by decide)]
  have : i * n / b = i + k - 1 := by
    have b1 := h.b1
    have hk : i * n = i * a + b * i := by rw [← h.ab, Int.mul_add, Int.mul_comm b]
    rw [hk, Int.add_mul_ediv_left _ _ (by omega)]
    generalize i * a = x at *
    have : x / b = k - 1 := by
      refine (Int.ediv_eq_iff_of_pos (by omega)).mpr ⟨h2, ?_⟩
      rw [Int.sub_mul, Int.one_mul]; omega
    rw [this]; omega
  rw [this]; omega
theorem upI_lt {t t' w n s : Int} {lower : Bool} (hw : 1 ≤ w) (hn : w ≤ n) (h : t < t') : upI t w n s lower < upI t' w n s lower := by
  have step : ∀ {x y : Int}, x ≤ y - w → x / w < y / w := by
    intro x y hxy
    have : (y - w) / w = y / w - 1 := by
      have := Int.add_mul_ediv_right y (-1) (show w ≠ 0 by omega)
      rw [show y + -1 * w = y - w by omega] at this
      omega
    have := Int.ediv_le_ediv (show 0 < w by omega) hxy
    omega
  unfold upI
  cases lower with
  | true =>
    simp only [if_true]
    by_cases h1 : t < s
    · rw [if_pos h1]
      by_cases h2 : t' < s
      · rw [if_pos h2]; exact h
      · rw [if_neg h2]
        have h3 : (s - t') * n ≤ 0 := Int.mul_nonpos_of_nonpos_of_nonneg (by omega) (by omega)
        have := Int.ediv_le_ediv (show 0 < w by omega) h3
        rw [Int.zero_ediv] at this
        omega
    · rw [if_neg h1, if_neg (by omega)]
      have h3 : (s - t') * n ≤ (s - t) * n - w := by
        have := Int.mul_le_mul_of_nonneg_right (show s - t' ≤ s - t - 1 by omega) (show 0 ≤ n by omega)
        rw [Int.sub_mul (s - t), Int.one_mul] at this
        omega
      have := step h3
      omega
  | false =>
    simp only [Bool.false_eq_true, if_false]
    have h3 : t * n ≤ t' * n - w := by
      have := Int.mul_le_mul_of_nonneg_right (show t ≤ t' - 1 by omega) (show 0 ≤ n by omega)
      rw [Int.sub_mul, Int.one_mul] at this
      omega
    have := step h3
    omega
theorem upI_ge {t w n s : Int} {lower : Bool} (hw : 1 ≤ w) (hn : w ≤ n) (hs : 0 ≤ s) (h : 0 ≤ t) : t ≤ upI t w n s lower := by
  unfold upI
  cases lower with
  | true =>
    simp only [if_true]
    by_cases h1 : t < s
    · rw [if_pos h1]; exact Int.le_refl _
    · rw [if_neg h1]
      have h3 : (s - t) * n ≤ (s - t) * w := Int.mul_le_mul_of_nonpos_left (by omega) hn
      have := Int.ediv_le_ediv (show 0 < w by omega) h3
      rw [Int.mul_ediv_cancel _ (by omega)] at this
      omega
  | false =>
    simp only [Bool.false_eq_true, if_false]
    have h3 : t * w ≤ t * n := Int.mul_le_mul_of_nonneg_left hn h
    have := Int.ediv_le_ediv (show 0 < w by omega) h3
    rw [Int.mul_ediv_cancel _ (by omega)] at this
    omega
theorem Pair.disj {a b n s t t' : Int} (h : Pair a b n s) (h0 : 0 ≤ t) (h0' : 0 ≤ t') : upI t a n s true ≠ upI t' b n s false := by
  have a1 := h.a1
  have b1 := h.b1
  have hab := h.ab
  by_cases h1 : t < s
  · have e1 : upI t a n s true = t := by unfold upI; rw [if_pos rfl, if_pos h1]
    have h2 : 0 ≤ t' * n := Int.mul_nonneg h0' (by omega)
    have := Int.ediv_nonneg h2 (show 0 ≤ b by omega)
    have e2 : upI t' b n s false = s + t' * n / b + 1 := by unfold upI; rw [if_neg (by decide)]
    rw [e1, e2]; omega
  · have hx := Int.mul_ediv_add_emod (-((t - s) * b)) a
    have x0 := Int.emod_nonneg (-((t - s) * b)) (show a ≠ 0 by omega)
    have x1 := Int.emod_lt_of_pos (-((t - s) * b)) (show 0 < a by omega)
    obtain ⟨u, hu⟩ : ∃ u, u = -(-((t - s) * b) / a) := ⟨_, rfl⟩
    have hu' : -((t - s) * b) / a = -u := by omega
    rw [hu', Int.mul_neg, Int.mul_comm a] at hx
    have hy := Int.mul_ediv_add_emod (t' * a) b
    have y0 := Int.emod_nonneg (t' * a) (show b ≠ 0 by omega)
    have y1 := Int.emod_lt_of_pos (t' * a) (show 0 < b by omega)
    generalize t' * a / b = f at *
    rw [Int.mul_comm b] at hy
    have e1 : upI t a n s true = t + u := h.up_lo (by omega) (by omega) (by rw [Int.sub_mul, Int.one_mul]; omega)
    have e2 : upI t' b n s false = s + t' + (f + 1) := h.up_hi (by rw [Int.add_mul, Int.one_mul]; omega) (by rw [show f + 1 - 1 = f by omega]; omega)
    rw [e1, e2]
    intro e
    by_cases hk : t - s ≤ f
    · have h3 := Int.mul_le_mul_of_nonneg_right hk (show 0 ≤ b by omega)
      have h4 : (u - 1) * a < t' * a := by rw [Int.sub_mul, Int.one_mul]; omega
      have := Int.lt_of_mul_lt_mul_right h4 (by omega)
      omega
    · have h3 := Int.mul_le_mul_of_nonneg_right (show f + 1 ≤ t - s by omega) (show 0 ≤ b by omega)
      rw [Int.add_mul, Int.one_mul] at h3
      have h4 : t' * a < u * a := by omega
      have := Int.lt_of_mul_lt_mul_right h4 (by omega)
      omega
end Mini

end

section
set_option autoImplicit false
namespace Mini
open PySem
structure Pl where
  num : Nat → Int
  pa : Nat → Nat
  wt : Nat → Int
  wh : Nat → Int
  wa : Nat → Int
  sk : Nat → Int
  hs : Nat → List Nat
def Pl.up (pl : Pl) (j : Nat) (t : Int) : Int := pl.wa (pl.pa j) + upI t (pl.wt j) (pl.wh j) (pl.sk (pl.pa j)) (decide (j % 2 = 1))
structure Kid (m : Nat) (pl : Pl) (p j : Nat) : Prop where
  odd : j % 2 = 1
  lt : p < j
  jm : j + 1 < m
  pj : pl.pa j = p
  pj1 : pl.pa (j + 1) = p
  hs : pl.hs p = [j, j + 1] ∨ (pl.hs p = [j + 1, j] ∧ pl.sk p = 0)
  pair : Pair (pl.wt j) (pl.wt (j + 1)) (pl.wh j) (pl.sk p)
  wh : pl.wh (j + 1) = pl.wh j
def lowOf (j : Nat) : Nat := if j % 2 = 1 then j else j - 1
structure PlOk (m : Nat) (pl : Pl) : Prop where
  kids : ∀ p, p < m → pl.hs p = [] ∨ ∃ j, Kid m pl p j
  par : ∀ j, 0 < j → j < m → Kid m pl (pl.pa j) (lowOf j)
  wa3 : ∀ p, p < m → pl.hs p ≠ [] → 0 ≤ pl.wa p ∧ pl.wa p ≤ 3
  wl : ∀ p, p < m → pl.hs p = [] → p ≠ 0 → pl.wa p = -1
  w0 : pl.wa 0 = 0
  nm : ∀ i j, i < j → j < m → pl.num i < pl.num j
  n0 : pl.num 0 = 0
  m9 : m ≤ 9
theorem Kid.hne {m : Nat} {pl : Pl} {p j : Nat} (h : Kid m pl p j) : pl.hs p ≠ [] := by
  rcases h.hs with e | ⟨e, _⟩ <;> rw [e] <;> nofun
theorem Kid.uniq {m : Nat} {pl : Pl} {p i j : Nat} (h : Kid m pl p i) (h' : Kid m pl p j) : i = j := by
  have o := h.odd
  have o' := h'.odd
  rcases h.hs with e | ⟨e, _⟩ <;> rcases h'.hs with e' | ⟨e', _⟩ <;> rw [e] at e' <;> simp only [List.cons.injEq] at e' <;> omega
theorem Kid.mem {m : Nat} {pl : Pl} {p j x : Nat} (h : Kid m pl p j) : x ∈ pl.hs p ↔ x = j ∨ x = j + 1 := by
  rcases h.hs with e | ⟨e, _⟩ <;> rw [e] <;> simp only [List.mem_cons, List.not_mem_nil, or_false]
  exact Or.comm
theorem lowOf_odd {j : Nat} (h : j % 2 = 1) : lowOf j = j := if_pos h
theorem lowOf_even {j : Nat} (h : j % 2 = 1) : lowOf (j + 1) = j := by unfold lowOf; rw [if_neg (by omega)]; omega
theorem lowOf_cases (j : Nat) (h : 0 < j) : lowOf j % 2 = 1 ∧ (j = lowOf j ∨ j = lowOf j + 1) := by unfold lowOf; split <;> omega
section
variable {m : Nat} {pl : Pl}
theorem PlOk.pa_lt (h : PlOk m pl) {j : Nat} (h0 : 0 < j) (hj : j < m) : pl.pa j < j := by
  have k := h.par j h0 hj
  have := k.lt
  have := lowOf_cases j h0
  omega
theorem PlOk.w (h : PlOk m pl) {j : Nat} (h0 : 0 < j) (hj : j < m) : 1 ≤ pl.wt j ∧ pl.wt j ≤ pl.wh j ∧ pl.wt j ≤ 256 ∧ 0 ≤ pl.sk (pl.pa j) ∧ pl.sk (pl.pa j) ≤ 3 ∧ 0 ≤ pl.wa (pl.pa j) ∧ pl.wa (pl.pa j) ≤ 3 ∧ 2 ≤ pl.wh j ∧ pl.wh j ≤ 256 := by
  have k := h.par j h0 hj
  have hw := h.wa3 (pl.pa j) (Nat.lt_trans (h.pa_lt h0 hj) hj) k.hne
  obtain ⟨a1, b1, ab, _, s0, s3, _⟩ := k.pair
  have hle := k.pair.a_le
  have hwh := k.wh
  have hc := (lowOf_cases j h0).2
  generalize pl.sk (pl.pa j) = sk at *
  generalize pl.wa (pl.pa j) = wa at *
  generalize lowOf j = l at *
  rcases hc with e | e
  · subst e; omega
  · subst e; rw [hwh]; omega
theorem PlOk.up_lt (h : PlOk m pl) {j : Nat} {t t' : Int} (h0 : 0 < j) (hj : j < m) (ht : t < t') : pl.up j t < pl.up j t' := by
  have hw := h.w h0 hj
  have := upI_lt (s := pl.sk (pl.pa j)) (lower := decide (j % 2 = 1)) hw.1 hw.2.1 ht
  unfold Pl.up; omega
theorem PlOk.up_ge (h : PlOk m pl) {j : Nat} {t : Int} (h0 : 0 < j) (hj : j < m) (ht : 0 ≤ t) : t ≤ pl.up j t ∧ pl.wa (pl.pa j) ≤ pl.up j t := by
  have hw := h.w h0 hj
  have := upI_ge (s := pl.sk (pl.pa j)) (lower := decide (j % 2 = 1)) hw.1 hw.2.1 hw.2.2.2.1 ht
  unfold Pl.up; omega
theorem PlOk.up_inj (h : PlOk m pl) {i j : Nat} {t u : Int} (hi0 : 0 < i) (hi : i < m) (hj0 : 0 < j) (hj : j < m) (hp : pl.pa i = pl.pa j) (ht : 0 ≤ t) (hu : 0 ≤ u) (e : pl.up i t = pl.up j u) : i = j ∧ t = u := by
  have ki := h.par i hi0 hi
  have kj := h.par j hj0 hj
  rw [hp] at ki
  have hl := ki.uniq kj
  have ci := lowOf_cases i hi0
  have cj := lowOf_cases j hj0
  have same : i = j → i = j ∧ t = u := by
    intro hij
    subst hij
    refine ⟨rfl, ?_⟩
    rcases Int.lt_trichotomy t u with h1 | h1 | h1
    · have := h.up_lt hi0 hi h1; omega
    · exact h1
    · have := h.up_lt hi0 hi h1; omega
  have dis : ∀ {x : Nat} {a b : Int}, x % 2 = 1 → Kid m pl (pl.pa j) x → 0 ≤ a → 0 ≤ b → pl.up x a = pl.up (x + 1) b → False := by
    intro x a b hx k ha hb e
    unfold Pl.up at e
    rw [k.pj, k.pj1, k.wh, decide_eq_true hx, decide_eq_false (by omega)] at e
    exact k.pair.disj ha hb (by omega)
  by_cases hij : i = j
  · exact same hij
  · exfalso
    rcases ci.2 with h1 | h1 <;> rcases cj.2 with h2 | h2
    · omega
    · rw [h2, ← hl, ← h1] at e
      exact dis (by omega) (by rw [← h1] at ki; exact ki) ht hu e
    · rw [h1, hl, ← h2] at e
      exact dis (by omega) (by rw [← h2] at kj; exact kj) hu ht e.symm
    · omega
/-- from a stream's turn up to the turn of the line -/
inductive Cl (pl : Pl) : Nat → Int → Int → Prop
  | top {t : Int} : Cl pl 0 t t
  | up {j : Nat} {t r : Int} (h0 : 0 < j) (h : Cl pl (pl.pa j) (pl.up j t) r) : Cl pl j t r
inductive Dn (m : Nat) (pl : Pl) : Nat → Int → Nat → Int → Prop
  | here {p : Nat} {t : Int} : Dn m pl p t p t
  | step {p j v : Nat} {s t k : Int} (h0 : 0 < j) (hj : j < m) (hp : pl.pa j = p) (ht : 0 ≤ t) (e : s = pl.up j t) (h : Dn m pl j t v k) : Dn m pl p s v k
def Valid (pl : Pl) (v : Nat) (k : Int) : Prop := v ≠ 0 ∧ 0 ≤ k ∧ (pl.wa v = -1 ∨ k < pl.wa v)
theorem Cl.dn (ok : PlOk m pl) {j v : Nat} {t r k : Int} (h : Cl pl j t r) : j < m → 0 ≤ t → Dn m pl j t v k → Dn m pl 0 r v k := by
  induction h with
  | top => exact fun _ _ d => d
  | up h0 h ih =>
    intro hj ht d
    exact ih (Nat.lt_trans (ok.pa_lt h0 hj) hj) (Int.le_trans ht (ok.up_ge h0 hj ht).1) (.step h0 hj rfl ht rfl d)
theorem Dn.inj (ok : PlOk m pl) {p v v' : Nat} {t k k' : Int} (d : Dn m pl p t v k) : Dn m pl p t v' k' → Valid pl v k → Valid pl v' k' → v = v' ∧ k = k' := by
  have no : ∀ {j : Nat} {t s : Int}, 0 < j → j < m → 0 ≤ t → s = pl.up j t → Valid pl (pl.pa j) s → False := by
    intro j t s h0 hj ht e hv
    have h1 := ok.up_ge h0 hj ht
    have h2 := ok.w h0 hj
    obtain ⟨_, _, hv⟩ := hv
    omega
  induction d with
  | here =>
    intro d' hv hv'
    cases d' with
    | here => exact ⟨rfl, rfl⟩
    | step h0 hj hp ht e h => exact (no h0 hj ht e (hp ▸ hv)).elim
  | step h0 hj hp ht e h ih =>
    intro d' hv hv'
    cases d' with
    | here => exact (no h0 hj ht e (hp ▸ hv')).elim
    | step h0' hj' hp' ht' e' h' =>
      obtain ⟨rfl, rfl⟩ := ok.up_inj h0 hj h0' hj' (hp.trans hp'.symm) ht ht' (e.symm.trans e')
      exact ih h' hv hv'
theorem Cl.inj (ok : PlOk m pl) {v v' : Nat} {k k' r : Int} (h : Cl pl v k r) (h' : Cl pl v' k' r) (hv : v < m) (hv' : v' < m) (a : Valid pl v k) (b : Valid pl v' k') : v = v' ∧ k = k' :=
  Dn.inj ok (h.dn ok hv a.2.1 .here) (h'.dn ok hv' b.2.1 .here) a b
theorem Cl.mono (ok : PlOk m pl) {v : Nat} {k r : Int} (h : Cl pl v k r) : ∀ {k' r' : Int}, v < m → k < k' → Cl pl v k' r' → r < r' := by
  induction h with
  | top => intro k' r' _ hk h'; cases h' with | top => exact hk | up h0 => omega
  | up h0 h ih =>
    intro k' r' hv hk h'
    cases h' with
    | top => omega
    | up _ h' => exact ih (Nat.lt_trans (ok.pa_lt h0 hv) hv) (ok.up_lt h0 hv hk) h'
theorem Cl.ge (ok : PlOk m pl) {v : Nat} {k r : Int} (h : Cl pl v k r) : v < m → 0 ≤ k → k ≤ r := by
  induction h with
  | top => exact fun _ _ => Int.le_refl _
  | up h0 h ih =>
    intro hv hk
    have := (ok.up_ge h0 hv hk).1
    have := ih (Nat.lt_trans (ok.pa_lt h0 hv) hv) (by omega)
    omega
theorem Cl.total (ok : PlOk m pl) : ∀ (v : Nat) (k : Int), v < m → ∃ r, Cl pl v k r := by
  intro v
  induction v using Nat.strongRecOn with
  | ind v ih =>
    intro k hv
    by_cases h0 : v = 0
    · subst h0; exact ⟨k, .top⟩
    · obtain ⟨r, hr⟩ := ih (pl.pa v) (ok.pa_lt (by omega) hv) (pl.up v k) (Nat.lt_trans (ok.pa_lt (by omega) hv) hv)
      exact ⟨r, .up (by omega) hr⟩
end
end Mini

end

section
set_option autoImplicit false
namespace Mini
open PySem
def Pl.lev (pl : Pl) (j : Nat) (t : Int) : Int := if j % 2 = 1 then 256 * t / pl.wt j else 256 * pl.sk (pl.pa j) / pl.wt (j - 1) + 256 * t / pl.wt j
theorem lev_step {w t : Int} (hw : 0 < w) : 256 * t / w + (256 + 256 * t % w) / w = 256 * (t + 1) / w ∧ (256 + 256 * t % w) % w = 256 * (t + 1) % w := by
  have e : 256 * (t + 1) = 256 + 256 * t % w + w * (256 * t / w) := by
    have := Int.mul_ediv_add_emod (256 * t) w
    omega
  constructor
  · rw [e, Int.add_mul_ediv_left _ _ (by omega)]; omega
  · rw [e, Int.add_mul_emod_self_left]
theorem Pl.lev_step {pl : Pl} {j : Nat} {t : Int} (hw : 0 < pl.wt j) : pl.lev j t + (256 + 256 * t % pl.wt j) / pl.wt j = pl.lev j (t + 1) := by
  have := (Mini.lev_step (t := t) hw).1
  unfold Pl.lev; split <;> omega
/-- what holds at each parent by itself -/
structure LInv (m : Nat) (pl : Pl) (S B : Nat → Prop) (c : Nat → Int) (T : Nat → Nd) : Prop where
  s0 : S 0
  b0 : B 0
  sm : ∀ j, S j → j < m
  bs : ∀ p, B p → S p ∧ pl.hs p ≠ []
  sp : ∀ j, S j → j ≠ 0 → B (pl.pa j)
  un : ∀ j, ¬ S j → c j = 0
  cn : ∀ j, 0 ≤ c j
  ac : ∀ p, S p → ((T p).act = false ↔ B p)
  w : ∀ p, S p → p ≠ 0 → (T p).w = pl.wt p
  qm : ∀ p, S p → ∀ j, j ∈ (T p).q.map (·.2) ↔ j ∈ pl.hs p ∧ S j
  qn : ∀ p, S p → ((T p).q.map (·.2)).Nodup
  qs : ∀ p, S p → (T p).q.Pairwise (Lt pl.num)
  ql : ∀ p, S p → ∀ x ∈ (T p).q, x.1 = pl.lev x.2 (c x.2)
  df : ∀ j, S j → j ≠ 0 → (T j).df = 256 * c j % pl.wt j
  pr : ∀ p j, B p → Kid m pl p j → (c j ≤ pl.sk p → c (j + 1) = 0) ∧ (pl.sk p < c j → (c (j + 1) - 1) * pl.wt j < (c j - pl.sk p) * pl.wt (j + 1) ∧ (c j - pl.sk p - 1) * pl.wt (j + 1) ≤ c (j + 1) * pl.wt j)
  lw : ∀ p j, B p → Kid m pl p j → (c j = 0 → c (j + 1) = 0 → (T p).lw = 0) ∧ (0 < pl.sk p → c (j + 1) = 0 → 0 < c j → (T p).lw = 256 * (c j - 1) / pl.wt j)
  lf : ∀ p, S p → ¬ B p → (T p).lw = 0
def FullAt (pl : Pl) (S : Nat → Prop) (c : Nat → Int) (p j : Nat) : Prop := S j ∧ (S (j + 1) ↔ pl.sk p = 0 ∨ pl.sk p < c j)
section
variable {m : Nat} {pl : Pl} {S B : Nat → Prop} {c : Nat → Int} {T : Nat → Nd}
/-- who is the foremost of a pair -/
theorem LInv.head (ok : PlOk m pl) (h : LInv m pl S B c T) {p j l : Nat} {lv : Int} {r : List (Int × Nat)} (hp : B p) (k : Kid m pl p l) (hF : FullAt pl S c p l) (hq : (T p).q = (lv, j) :: r) :
    (j = l ∨ j = l + 1) ∧ S j ∧ lv = pl.lev j (c j) ∧ (j = l → (pl.sk p < c l ∨ pl.sk p = 0) → (c l - pl.sk p) * pl.wt (l + 1) ≤ c (l + 1) * pl.wt l) ∧ (j = l + 1 → (pl.sk p < c l ∨ pl.sk p = 0) ∧ c (l + 1) * pl.wt l < (c l - pl.sk p) * pl.wt (l + 1)) := by
  have hS := (h.bs p hp).1
  have hj := (h.qm p hS j).mp (by rw [hq]; exact List.mem_cons_self)
  have hjl := k.mem.mp hj.1
  have hl : ∀ x ∈ (T p).q, x.1 = pl.lev x.2 (c x.2) := h.ql p hS
  have hlv : lv = pl.lev j (c j) := hl (lv, j) (by rw [hq]; exact List.mem_cons_self)
  have hst := h.qs p hS
  rw [hq, List.pairwise_cons] at hst
  have other : ∀ x, (x = l ∨ x = l + 1) → x ≠ j → S x → Lt pl.num (pl.lev j (c j), j) (pl.lev x (c x), x) := by
    intro x hx hne hSx
    have := (h.qm p hS x).mpr ⟨k.mem.mpr hx, hSx⟩
    obtain ⟨y, hy, rfl⟩ := List.mem_map.mp this
    have e := hl y hy
    rw [hq] at hy
    rcases List.mem_cons.mp hy with rfl | hy
    · exact absurd rfl hne
    · have := hst.1 y hy
      rw [← hlv, ← e]; exact this
  have hodd := k.odd
  have hnum := ok.nm l (l + 1) (by omega) k.jm
  obtain ⟨a1, b1, ab, nd, s0, s3, sd⟩ := k.pair
  have e1 : pl.lev l (c l) = 256 * pl.sk p / pl.wt l + 256 * (c l - pl.sk p) / pl.wt l := by
    unfold Pl.lev; rw [if_pos hodd]
    by_cases hs : 0 < pl.sk p
    · obtain ⟨d, hd⟩ := sd hs
      have x1 : 256 * pl.sk p = pl.wt l * (d * pl.sk p) := by rw [hd, Int.mul_assoc]
      have x2 : 256 * c l = 256 * (c l - pl.sk p) + pl.wt l * (d * pl.sk p) := by rw [← x1, Int.mul_sub]; omega
      rw [x2, Int.add_mul_ediv_left _ _ (by omega), x1, Int.mul_ediv_cancel_left _ (by omega)]; omega
    · have : pl.sk p = 0 := by omega
      rw [this]; simp
  have e2 : pl.lev (l + 1) (c (l + 1)) = 256 * pl.sk p / pl.wt l + 256 * c (l + 1) / pl.wt (l + 1) := by
    unfold Pl.lev; rw [if_neg (by omega), k.pj1]; rfl
  refine ⟨hjl, hj.2, hlv, ?_, ?_⟩
  · rintro rfl hs
    have hS2 : S (j + 1) := hF.2.mpr (by omega)
    have := other (j + 1) (.inr rfl) (by omega) hS2
    unfold Lt at this
    dsimp only at this
    rw [e1, e2] at this
    have hc := k.pair.cmp (c (j + 1)) (c j - pl.sk p)
    refine Int.not_lt.mp fun hlt => ?_
    have := hc.mpr hlt
    omega
  · intro hjl
    have hs : pl.sk p < c l ∨ pl.sk p = 0 := by
      have := hF.2.mp (hjl ▸ hj.2)
      omega
    refine ⟨hs, ?_⟩
    have := other l (.inl rfl) (by omega) hF.1
    unfold Lt at this
    dsimp only at this
    rw [hjl, e1, e2] at this
    refine (k.pair.cmp (c (l + 1)) (c l - pl.sk p)).mp ?_
    omega
/-- the turn of the parent that the foremost takes -/
theorem LInv.head_up (ok : PlOk m pl) (h : LInv m pl S B c T) {p j l : Nat} {lv : Int} {r : List (Int × Nat)} (hp : B p) (k : Kid m pl p l) (hF : FullAt pl S c p l) (hq : (T p).q = (lv, j) :: r) :
    pl.up j (c j) = pl.wa p + c l + c (l + 1) := by
  obtain ⟨hjl, hSj, hlv, h1, h2⟩ := h.head ok hp k hF hq
  have hpr := h.pr p l hp k
  have hodd := k.odd
  have s0 := k.pair.s0
  have cl0 := h.cn l
  rcases hjl with e | e
  · subst e
    unfold Pl.up
    rw [k.pj, decide_eq_true hodd]
    by_cases hs : pl.sk p < c j
    · rw [k.pair.up_lo (by omega) (h1 rfl (.inl hs)) (hpr.2 hs).1]; omega
    · have hz := hpr.1 (by omega)
      rw [hz]
      unfold upI
      rw [if_pos rfl]
      by_cases hlt : c j < pl.sk p
      · rw [if_pos hlt]; omega
      · have : c j = pl.sk p := by omega
        rw [if_neg hlt, this]; simp
  · obtain ⟨hs, hlt⟩ := h2 e
    subst e
    unfold Pl.up
    rw [k.pj1, k.wh, decide_eq_false (by omega)]
    have hsl : pl.sk p < c l := by
      rcases hs with hs | hs
      · exact hs
      · refine Int.not_le.mp fun hle => ?_
        have hz : c l = 0 := by omega
        rw [hz, hs, hpr.1 hle] at hlt
        simp at hlt
    rw [k.pair.up_hi hlt (hpr.2 hsl).2]; omega
end
end Mini

end

section
set_option autoImplicit false
namespace Mini
open PySem
section
variable {m : Nat} {pl : Pl} {S B : Nat → Prop} {c : Nat → Int} {T : Nat → Nd}
theorem serve_at {I : Nat → Int} {p j : Nat} {l : Int} {r : List (Int × Nat)} (hpj : p ≠ j) (hq : (T p).q = (l, j) :: r) :
    serve I T p j = upd (upd T j { T j with df := (256 + (T j).df) % (T j).w }) p { T p with lw := l, q := ins I (l + (256 + (T j).df) / (T j).w, j) r } := by
  unfold serve; rw [hq]; rfl
theorem LInv.serve (ok : PlOk m pl) (h : LInv m pl S B c T) {p j l : Nat} {lv : Int} {r : List (Int × Nat)} (hp : B p) (k : Kid m pl p l) (hF : FullAt pl S c p l) (hq : (T p).q = (lv, j) :: r) :
    LInv m pl S B (upd c j (c j + 1)) (serve pl.num T p j) := by
  obtain ⟨hjl, hSj, hlv, h1, h2⟩ := h.head ok hp k hF hq
  have hS := (h.bs p hp).1
  have hpa : pl.pa j = p := by rcases hjl with rfl | rfl; exact k.pj; exact k.pj1
  have hlt := k.lt
  have hpj : p ≠ j := by rcases hjl with rfl | rfl <;> omega
  have hj0 : j ≠ 0 := by rcases hjl with rfl | rfl <;> omega
  have hjm := h.sm j hSj
  have hw := ok.w (by omega) hjm
  have hwj := h.w j hSj hj0
  have hdf := h.df j hSj hj0
  rw [serve_at hpj hq, hwj, hdf, hlv, pl.lev_step (by omega), (lev_step (by omega)).2]
  have cj : upd c j (c j + 1) j = c j + 1 := upd_eq
  have co : ∀ x, x ≠ j → upd c j (c j + 1) x = c x := fun x hx => upd_ne hx
  generalize hc' : upd c j (c j + 1) = c' at *
  have Tp : ∀ {α : Type} (f : Nd → α), (∀ (n : Nd) (a b : Int) (q : List (Int × Nat)), f { n with lw := a, q := q } = f n ∧ f { n with df := b } = f n) → ∀ x, f (upd (upd T j { T j with df := 256 * (c j + 1) % pl.wt j }) p { T p with lw := pl.lev j (c j), q := ins pl.num (pl.lev j (c j + 1), j) r } x) = f (T x) := by
    intro α f hf x
    unfold upd
    split
    · rename_i e; subst e; exact (hf _ _ 0 _).1
    · split
      · rename_i e; subst e; exact (hf _ 0 _ []).2
      · rfl
  have hr : ∀ y ∈ r, y.2 ≠ j := by
    intro y hy e
    have := h.qn p hS
    rw [hq, List.map_cons, List.nodup_cons] at this
    exact this.1 (List.mem_map.mpr ⟨y, hy, e⟩)
  have hnoj : ∀ x, S x → x ≠ p → ∀ y ∈ (T x).q, y.2 ≠ j := by
    intro x hx hne y hy e
    have := ((h.qm x hx y.2).mp (List.mem_map.mpr ⟨y, hy, rfl⟩)).1
    rcases ok.kids x (h.sm x hx) with e0 | ⟨i, ki⟩
    · rw [e0] at this; cases this
    · have hm := ki.mem.mp this
      rw [e] at hm
      apply hne
      rw [← hpa]
      rcases hm with rfl | rfl
      · exact ki.pj.symm
      · exact ki.pj1.symm
  have hst := h.qs p hS
  have hqn := h.qn p hS
  have hqm := h.qm p hS
  have hql := h.ql p hS
  rw [hq] at hst hqn hqm hql
  rw [List.pairwise_cons] at hst
  have hkj : ∀ x i, Kid m pl x i → x ≠ p → i ≠ j ∧ i + 1 ≠ j := by
    intro x i ki hne
    refine ⟨fun e => hne ?_, fun e => hne ?_⟩
    · rw [← hpa, ← e]; exact ki.pj.symm
    · rw [← hpa, ← e]; exact ki.pj1.symm
  refine ⟨h.s0, h.b0, h.sm, h.bs, h.sp, fun x hx => ?_, fun x => ?_, fun x hx => ?_, fun x hx h0 => ?_, fun x hx => ?_, fun x hx => ?_, fun x hx => ?_, fun x hx => ?_, fun x hx h0 => ?_, fun x i hx ki => ?_, fun x i hx ki => ?_, fun x hx hb => ?_⟩
  · rw [co x (fun e => hx (e ▸ hSj))]; exact h.un x hx
  · by_cases e : x = j
    · subst e; rw [cj]; have := h.cn x; omega
    · rw [co x e]; exact h.cn x
  · rw [Tp (·.act) (fun _ _ _ _ => ⟨rfl, rfl⟩)]; exact h.ac x hx
  · rw [Tp (·.w) (fun _ _ _ _ => ⟨rfl, rfl⟩)]; exact h.w x hx h0
  · by_cases e : x = p
    · subst e; rw [upd_eq]
      intro i
      rw [← hqm i]
      exact (ins_perm.map _).mem_iff
    · rw [upd_ne e]
      have : (upd T j { T j with df := 256 * (c j + 1) % pl.wt j } x).q = (T x).q := by
        unfold upd; split
        · rename_i e; subst e; rfl
        · rfl
      rw [this]; exact h.qm x hx
  · by_cases e : x = p
    · subst e; rw [upd_eq]
      exact ((ins_perm.map _).nodup_iff).mpr hqn
    · rw [upd_ne e]
      have : (upd T j { T j with df := 256 * (c j + 1) % pl.wt j } x).q = (T x).q := by
        unfold upd; split
        · rename_i e; subst e; rfl
        · rfl
      rw [this]; exact h.qn x hx
  · by_cases e : x = p
    · subst e; rw [upd_eq]
      refine ins_sorted hst.2 fun y hy => ?_
      have hy2 := (hqm y.2).mp (List.mem_cons_of_mem _ (List.mem_map.mpr ⟨y, hy, rfl⟩))
      have hne := hr y hy
      have hym := h.sm _ hy2.2
      dsimp only
      rcases Nat.lt_or_gt_of_ne hne with h3 | h3
      · have := ok.nm _ _ h3 hjm; omega
      · have := ok.nm _ _ h3 hym; omega
    · rw [upd_ne e]
      have : (upd T j { T j with df := 256 * (c j + 1) % pl.wt j } x).q = (T x).q := by
        unfold upd; split
        · rename_i e; subst e; rfl
        · rfl
      rw [this]; exact h.qs x hx
  · by_cases e : x = p
    · subst e; rw [upd_eq]
      intro y hy
      rcases List.mem_cons.mp (ins_perm.mem_iff.mp hy) with rfl | hy
      · dsimp only; rw [cj]
      · rw [co _ (hr y hy)]
        exact hql y (List.mem_cons_of_mem _ hy)
    · rw [upd_ne e]
      have : (upd T j { T j with df := 256 * (c j + 1) % pl.wt j } x).q = (T x).q := by
        unfold upd; split
        · rename_i e; subst e; rfl
        · rfl
      rw [this]
      intro y hy
      rw [co _ (hnoj x hx e y hy)]
      exact h.ql x hx y hy
  · by_cases e : x = j
    · subst e; rw [upd_ne (Ne.symm hpj), upd_eq, cj]
    · rw [co x e, ← h.df x hx h0]
      unfold upd; split
      · rename_i e; subst e; rfl
      · rfl
  · by_cases e : x = p
    · subst e
      have hil := ki.uniq k
      subst hil
      have hpr := h.pr x i hx ki
      obtain ⟨a1, b1, ab, nd, s0, s3, sd⟩ := ki.pair
      have c1 := h.cn i
      have c2 := h.cn (i + 1)
      rcases hjl with rfl | rfl
      · rw [cj, co (j + 1) (by omega)]
        refine ⟨fun hle => hpr.1 (by omega), fun hlt => ?_⟩
        by_cases hs : pl.sk x < c j
        · obtain ⟨g1, g2⟩ := hpr.2 hs
          have g3 := h1 rfl (.inl hs)
          refine ⟨?_, by rw [show c j + 1 - pl.sk x - 1 = c j - pl.sk x by omega]; exact g3⟩
          have : (c j + 1 - pl.sk x) * pl.wt (j + 1) = (c j - pl.sk x) * pl.wt (j + 1) + pl.wt (j + 1) := by
            rw [show c j + 1 - pl.sk x = (c j - pl.sk x) + 1 by omega, Int.add_mul, Int.one_mul]
          omega
        · have hz := hpr.1 (by omega)
          have he : c j = pl.sk x := by omega
          rw [hz, he]
          have : pl.sk x + 1 - pl.sk x = 1 := by omega
          rw [this]
          simp; omega
      · obtain ⟨hs, hlt⟩ := h2 rfl
        rw [cj, co i (by omega)]
        have hsl : pl.sk x < c i := by
          rcases hs with hs | hs
          · exact hs
          · refine Int.not_le.mp fun hle => ?_
            have hz : c i = 0 := by omega
            rw [hz, hs, hpr.1 hle] at hlt
            simp at hlt
        obtain ⟨g1, g2⟩ := hpr.2 hsl
        refine ⟨fun hle => by omega, fun _ => ⟨by rw [show c (i + 1) + 1 - 1 = c (i + 1) by omega]; exact hlt, ?_⟩⟩
        have : (c (i + 1) + 1) * pl.wt i = c (i + 1) * pl.wt i + pl.wt i := by rw [Int.add_mul, Int.one_mul]
        omega
    · obtain ⟨n1, n2⟩ := hkj x i ki e
      rw [co i n1, co (i + 1) n2]
      exact h.pr x i hx ki
  · by_cases e : x = p
    · subst e
      have hil := ki.uniq k
      subst hil
      rw [upd_eq]
      dsimp only
      have c1 := h.cn i
      have c2 := h.cn (i + 1)
      rcases hjl with rfl | rfl
      · rw [cj, co (j + 1) (by omega)]
        refine ⟨fun hz => by omega, fun _ _ _ => ?_⟩
        unfold Pl.lev
        rw [if_pos k.odd, show c j + 1 - 1 = c j by omega]
      · rw [cj]
        exact ⟨fun _ hz => by omega, fun _ hz => by omega⟩
    · obtain ⟨n1, n2⟩ := hkj x i ki e
      rw [co i n1, co (i + 1) n2, upd_ne e]
      have : (upd T j { T j with df := 256 * (c j + 1) % pl.wt j } x).lw = (T x).lw := by
        unfold upd; split
        · rename_i e; subst e; rfl
        · rfl
      rw [this]
      exact h.lw x i hx ki
  · have e : x ≠ p := fun e => hb (e ▸ hp)
    rw [upd_ne e]
    have : (upd T j { T j with df := 256 * (c j + 1) % pl.wt j } x).lw = (T x).lw := by
      unfold upd; split
      · rename_i e; subst e; rfl
      · rfl
    rw [this]
    exact h.lf x hx hb
end
end Mini

end

section
set_option autoImplicit false
namespace Mini
open PySem
def bumps (c : Nat → Int) (js : List Nat) : Nat → Int := fun i => if i ∈ js then c i + 1 else c i
/-- a way down the tree -/
inductive Ch (m : Nat) (pl : Pl) (S B : Nat → Prop) (c : Nat → Int) : Nat → List Nat → Nat → Prop
  | nil {p : Nat} : Ch m pl S B c p [] p
  | cons {p j f : Nat} {js : List Nat} (h0 : 0 < j) (hj : j < m) (hp : pl.pa j = p) (hb : B p) (hS : S j) (hu : pl.up j (c j) = c p) (h : Ch m pl S B c j js f) : Ch m pl S B c p (j :: js) f
section
variable {m : Nat} {pl : Pl} {S B : Nat → Prop} {c : Nat → Int} {T : Nat → Nd}
theorem Ch.gt (ok : PlOk m pl) {p f : Nat} {js : List Nat} (h : Ch m pl S B c p js f) : ∀ x ∈ js, p < x ∧ x < m ∧ S x ∧ (pl.pa x = p ∨ pl.pa x ∈ js) := by
  induction h with
  | nil => intro x hx; cases hx
  | cons h0 hj hp hb hS hu h ih =>
    intro x hx
    have hlt := ok.pa_lt h0 hj
    rw [hp] at hlt
    rcases List.mem_cons.mp hx with rfl | hx
    · exact ⟨hlt, hj, hS, .inl hp⟩
    · obtain ⟨a, b, e, d⟩ := ih x hx
      refine ⟨by omega, b, e, .inr ?_⟩
      rcases d with d | d
      · rw [d]; exact List.mem_cons_self
      · exact List.mem_cons_of_mem _ d
theorem Ch.nodup (ok : PlOk m pl) {p f : Nat} {js : List Nat} (h : Ch m pl S B c p js f) : (p :: js).Nodup := by
  induction h with
  | nil => simp
  | cons h0 hj hp hb hS hu h ih =>
    rename_i p j f js
    refine List.nodup_cons.mpr ⟨fun hm => ?_, ih⟩
    have hlt := ok.pa_lt h0 hj
    rw [hp] at hlt
    rcases List.mem_cons.mp hm with e | hm
    · omega
    · have := (h.gt ok _ hm).1; omega
theorem Ch.cl {p f : Nat} {js : List Nat} {r : Int} (h : Ch m pl S B c p js f) : Cl pl p (c p) r → Cl pl f (c f) r := by
  induction h with
  | nil => exact fun x => x
  | cons h0 hj hp hb hS hu h ih => exact fun x => ih (.up h0 (by rw [hp, hu]; exact x))
theorem Ch.last {p f : Nat} {js : List Nat} (h : Ch m pl S B c p js f) : js ≠ [] → f ∈ js := by
  induction h with
  | nil => exact fun x => absurd rfl x
  | cons h0 hj hp hb hS hu h ih =>
    rename_i p j f js
    intro _
    by_cases e : js = []
    · subst e; cases h; exact List.mem_cons_self
    · exact List.mem_cons_of_mem _ (ih e)
theorem Ch.inner {p f : Nat} {js : List Nat} (h : Ch m pl S B c p js f) : ∀ x ∈ p :: js, x ≠ f → B x := by
  induction h with
  | nil => intro x hx hne; rw [List.mem_singleton] at hx; exact absurd hx hne
  | cons h0 hj hp hb hS hu h ih =>
    intro x hx hne
    rcases List.mem_cons.mp hx with rfl | hx
    · exact hb
    · exact ih x hx hne
structure GInv (m : Nat) (pl : Pl) (S B : Nat → Prop) (c : Nat → Int) (T : Nat → Nd) : Prop where
  l : LInv m pl S B c T
  op : ∀ p, S p → (B p ↔ pl.hs p ≠ [] ∧ pl.wa p ≤ c p)
  sum : ∀ p j, B p → Kid m pl p j → c p = pl.wa p + c j + c (j + 1)
  full : ∀ p j, B p → Kid m pl p j → FullAt pl S c p j
theorem LInv.kid (ok : PlOk m pl) (h : LInv m pl S B c T) {p : Nat} (hp : B p) : ∃ l, Kid m pl p l := by
  obtain ⟨hS, hne⟩ := h.bs p hp
  rcases ok.kids p (h.sm p hS) with e | e
  · exact absurd e hne
  · exact e
theorem GInv.turn (ok : PlOk m pl) (G : GInv m pl S B c T) : ∀ n p, m - p ≤ n → B p →
    ∃ js f, Path T p js f ∧ Ch m pl S B c p js f ∧ js ≠ [] ∧ ¬ B f ∧ LInv m pl S B (bumps c js) (eff pl.num T p js) := by
  intro n
  induction n with
  | zero =>
    intro p hn hp
    have := G.l.sm p (G.l.bs p hp).1
    omega
  | succ n ih =>
    intro p hn hp
    obtain ⟨l, k⟩ := G.l.kid ok hp
    have hS := (G.l.bs p hp).1
    have hF := G.full p l hp k
    have hlq := (G.l.qm p hS l).mpr ⟨k.mem.mpr (.inl rfl), hF.1⟩
    obtain ⟨lv, j, r, hq⟩ : ∃ lv j r, (T p).q = (lv, j) :: r := by
      cases hq : (T p).q with
      | nil => rw [hq] at hlq; cases hlq
      | cons x r => exact ⟨x.1, x.2, r, rfl⟩
    obtain ⟨hjl, hSj, hlv, _, _⟩ := G.l.head ok hp k hF hq
    have hup := G.l.head_up ok hp k hF hq
    rw [← G.sum p l hp k] at hup
    have hpa : pl.pa j = p := by rcases hjl with rfl | rfl; exact k.pj; exact k.pj1
    have hj0 : 0 < j := by have := k.lt; omega
    have hjm := G.l.sm j hSj
    have hlt := ok.pa_lt hj0 hjm
    rw [hpa] at hlt
    by_cases ha : (T j).act = true
    · have hnb : ¬ B j := fun hb => by have := (G.l.ac j hSj).mpr hb; rw [this] at ha; cases ha
      refine ⟨[j], j, .leaf hq ha, .cons hj0 hjm hpa hp hSj hup .nil, by simp, hnb, ?_⟩
      have : bumps c [j] = upd c j (c j + 1) := by
        funext i; unfold bumps upd
        by_cases e : i = j
        · subst e; simp
        · simp [e]
      rw [this]
      exact G.l.serve ok hp k hF hq
    · have ha : (T j).act = false := by simpa using ha
      have hbj := (G.l.ac j hSj).mp ha
      obtain ⟨js, f, h1, h2, h3, h4, h5⟩ := ih j (by omega) hbj
      refine ⟨j :: js, f, .node hq ha h1, .cons hj0 hjm hpa hp hSj hup h2, by simp, h4, ?_⟩
      have hgt := h2.gt ok
      have hnd := h2.nodup ok
      have hpn : p ∉ j :: js := by
        intro hm
        rcases List.mem_cons.mp hm with e | hm
        · omega
        · have := (hgt p hm).1; omega
      have hkn : ∀ x, pl.pa x = p → x ∉ js := by
        intro x hx hm
        rcases (hgt x hm).2.2.2 with e | e
        · omega
        · have := (hgt _ e).1; omega
      have hb : bumps c (j :: js) = upd (bumps c js) j (bumps c js j + 1) := by
        funext i; unfold bumps upd
        by_cases e : i = j
        · subst e; simp [hkn i hpa]
        · simp [e]
      have hsame : ∀ x, pl.pa x = p → bumps c js x = c x := fun x hx => if_neg (hkn x hx)
      have hF' : FullAt pl S (bumps c js) p l := by
        unfold FullAt; rw [hsame l k.pj]; exact hF
      rw [hb]
      exact h5.serve ok hp k hF' (by rw [eff_out hpn]; exact hq)
end
end Mini

end

section
set_option autoImplicit false
namespace Mini
open PySem
section
variable {m : Nat} {pl : Pl} {S B : Nat → Prop} {c : Nat → Int} {T : Nat → Nd}
theorem LInv.nokid (ok : PlOk m pl) (h : LInv m pl S B c T) {f j : Nat} (hf : ¬ B f) (k : Kid m pl f j) : ¬ S j ∧ ¬ S (j + 1) ∧ c j = 0 ∧ c (j + 1) = 0 := by
  have h1 : ¬ S j := fun hs => hf (by have := h.sp j hs (by have := k.lt; omega); rw [k.pj] at this; exact this)
  have h2 : ¬ S (j + 1) := fun hs => hf (by have := h.sp (j + 1) hs (by omega); rw [k.pj1] at this; exact this)
  exact ⟨h1, h2, h.un _ h1, h.un _ h2⟩
theorem LInv.block (ok : PlOk m pl) (h : LInv m pl S B c T) {f : Nat} (hf : S f) (hb : ¬ B f) (hne : pl.hs f ≠ []) :
    LInv m pl S (fun x => B x ∨ x = f) c (upd T f { T f with act := false }) := by
  have sm : ∀ {α : Type} (g : Nd → α), (∀ (n : Nd) (a : Bool), g { n with act := a } = g n) → ∀ x, g (upd T f { T f with act := false } x) = g (T x) := by
    intro α g hg x
    unfold upd; split
    · rename_i e; subst e; exact hg _ _
    · rfl
  refine ⟨h.s0, .inl h.b0, h.sm, ?_, fun x hx h0 => .inl (h.sp x hx h0), h.un, h.cn, fun x hx => ?_, fun x hx h0 => ?_, fun x hx => ?_, fun x hx => ?_, fun x hx => ?_, fun x hx => ?_, fun x hx h0 => ?_, fun x i hx ki => ?_, fun x i hx ki => ?_, fun x hx hnb => ?_⟩
  · rintro p (hp | rfl)
    · exact h.bs p hp
    · exact ⟨hf, hne⟩
  · by_cases e : x = f
    · subst e; rw [upd_eq]; exact ⟨fun _ => .inr rfl, fun _ => rfl⟩
    · rw [upd_ne e, h.ac x hx]
      exact ⟨.inl, fun q => q.resolve_right e⟩
  · rw [sm (·.w) (fun _ _ => rfl)]; exact h.w x hx h0
  · rw [sm (·.q) (fun _ _ => rfl)]; exact h.qm x hx
  · rw [sm (·.q) (fun _ _ => rfl)]; exact h.qn x hx
  · rw [sm (·.q) (fun _ _ => rfl)]; exact h.qs x hx
  · rw [sm (·.q) (fun _ _ => rfl)]; exact h.ql x hx
  · rw [sm (·.df) (fun _ _ => rfl)]; exact h.df x hx h0
  · rcases hx with hx | rfl
    · exact h.pr x i hx ki
    · obtain ⟨_, _, c1, c2⟩ := h.nokid ok hb ki
      rw [c1, c2]
      have := ki.pair.s0
      exact ⟨fun _ => rfl, fun q => by omega⟩
  · rw [sm (·.lw) (fun _ _ => rfl)]
    rcases hx with hx | rfl
    · exact h.lw x i hx ki
    · obtain ⟨_, _, c1, c2⟩ := h.nokid ok hb ki
      rw [c1, c2]
      exact ⟨fun _ _ => h.lf x hf hb, fun _ _ q => by omega⟩
  · rw [sm (·.lw) (fun _ _ => rfl)]; exact h.lf x hx (fun q => hnb (.inl q))
theorem LInv.insert (ok : PlOk m pl) (h : LInv m pl S B c T) {x : Nat} {ch : List Nat} {par : Option Nat} (h0 : 0 < x) (hm : x < m) (hx : ¬ S x) (hB : B (pl.pa x)) (hlv : (T (pl.pa x)).lw = pl.lev x 0) :
    LInv m pl (fun i => S i ∨ i = x) B c (upd (upd T x ⟨pl.wt x, true, 0, 0, [], [], par⟩) (pl.pa x) { T (pl.pa x) with q := ins pl.num ((T (pl.pa x)).lw, x) (T (pl.pa x)).q, ch := ch }) := by
  obtain ⟨p, hp⟩ : ∃ p, pl.pa x = p := ⟨_, rfl⟩
  rw [hp] at hB hlv ⊢
  have hSp := (h.bs p hB).1
  have hxp : x ≠ p := fun e => hx (e ▸ hSp)
  have nx : ∀ {i}, S i → i ≠ x := fun hi e => hx (e ▸ hi)
  have hc0 := h.un x hx
  have at_x : upd (upd T x ⟨pl.wt x, true, 0, 0, [], [], par⟩) p { T p with q := ins pl.num ((T p).lw, x) (T p).q, ch := ch } x = ⟨pl.wt x, true, 0, 0, [], [], par⟩ := by rw [upd_ne hxp, upd_eq]
  have at_p : upd (upd T x ⟨pl.wt x, true, 0, 0, [], [], par⟩) p { T p with q := ins pl.num ((T p).lw, x) (T p).q, ch := ch } p = { T p with q := ins pl.num ((T p).lw, x) (T p).q, ch := ch } := upd_eq
  have at_o : ∀ i, i ≠ x → i ≠ p → upd (upd T x ⟨pl.wt x, true, 0, 0, [], [], par⟩) p { T p with q := ins pl.num ((T p).lw, x) (T p).q, ch := ch } i = T i := fun i a b => by rw [upd_ne b, upd_ne a]
  have sm : ∀ {α : Type} (g : Nd → α), (∀ (n : Nd) (a : List (Int × Nat)) (b : List Nat), g { n with q := a, ch := b } = g n) → ∀ i, i ≠ x → g (upd (upd T x ⟨pl.wt x, true, 0, 0, [], [], par⟩) p { T p with q := ins pl.num ((T p).lw, x) (T p).q, ch := ch } i) = g (T i) := by
    intro α g hg i hi
    by_cases e : i = p
    · subst e; rw [at_p]; exact hg _ _ _
    · rw [at_o i hi e]
  have hpl : x ∈ pl.hs p := by
    have k := ok.par x h0 hm
    rw [hp] at k
    refine k.mem.mpr ?_
    exact (lowOf_cases x h0).2
  have hnq : ∀ y ∈ (T p).q, y.2 ≠ x ∧ S y.2 := fun y hy => by
    have := ((h.qm p hSp y.2).mp (List.mem_map.mpr ⟨y, hy, rfl⟩)).2
    exact ⟨nx this, this⟩
  refine ⟨.inl h.s0, h.b0, ?_, fun p hp => ⟨.inl (h.bs p hp).1, (h.bs p hp).2⟩, ?_, fun i hi => h.un i (fun q => hi (.inl q)), h.cn, ?_, ?_, ?_, ?_, ?_, ?_, ?_, fun i j hi kj => ?_, fun i j hi kj => ?_, ?_⟩
  · rintro j (hj | rfl)
    · exact h.sm j hj
    · exact hm
  · rintro j (hj | rfl) hj0
    · exact h.sp j hj hj0
    · rw [hp]; exact hB
  · rintro i (hi | rfl)
    · rw [sm (·.act) (fun _ _ _ => rfl) i (nx hi)]; exact h.ac i hi
    · rw [at_x]; exact ⟨(fun q => by cases q), fun q => absurd (h.bs _ q).1 hx⟩
  · rintro i (hi | rfl) hi0
    · rw [sm (·.w) (fun _ _ _ => rfl) i (nx hi)]; exact h.w i hi hi0
    · rw [at_x]
  · rintro i (hi | rfl)
    · by_cases e : i = p
      · subst e; rw [at_p]
        intro j
        rw [(ins_perm.map _).mem_iff, List.map_cons, List.mem_cons, h.qm i hi j]
        constructor
        · rintro (rfl | ⟨a, b⟩)
          · exact ⟨hpl, .inr rfl⟩
          · exact ⟨a, .inl b⟩
        · rintro ⟨a, b | rfl⟩
          · exact .inr ⟨a, b⟩
          · exact .inl rfl
      · rw [at_o i (nx hi) e]
        intro j
        rw [h.qm i hi j]
        constructor
        · rintro ⟨a, b⟩; exact ⟨a, .inl b⟩
        · rintro ⟨a, b | rfl⟩
          · exact ⟨a, b⟩
          · exfalso
            rcases ok.kids i (h.sm i hi) with e0 | ⟨l, kl⟩
            · rw [e0] at a; cases a
            · rcases kl.mem.mp a with rfl | rfl
              · exact e (by rw [← hp]; exact kl.pj.symm)
              · exact e (by rw [← hp]; exact kl.pj1.symm)
    · rw [at_x]
      intro j
      constructor
      · intro q; cases q
      · rintro ⟨a, b⟩
        exfalso
        rcases ok.kids i hm with e0 | ⟨l, kl⟩
        · rw [e0] at a; cases a
        · have hn := h.nokid ok (fun q => hx (h.bs _ q).1) kl
          have hlt := kl.lt
          rcases b with b | rfl
          · rcases kl.mem.mp a with rfl | rfl
            · exact hn.1 b
            · exact hn.2.1 b
          · rcases kl.mem.mp a with e | e <;> omega
  · rintro i (hi | rfl)
    · by_cases e : i = p
      · subst e; rw [at_p]
        refine ((ins_perm.map _).nodup_iff).mpr ?_
        rw [List.map_cons, List.nodup_cons]
        refine ⟨fun q => ?_, h.qn i hi⟩
        obtain ⟨y, hy, hyx⟩ := List.mem_map.mp q
        exact (hnq y hy).1 hyx
      · rw [at_o i (nx hi) e]; exact h.qn i hi
    · rw [at_x]; exact List.nodup_nil
  · rintro i (hi | rfl)
    · by_cases e : i = p
      · subst e; rw [at_p]
        refine ins_sorted (h.qs i hi) fun y hy => ?_
        obtain ⟨h1, h2⟩ := hnq y hy
        dsimp only
        rcases Nat.lt_or_gt_of_ne h1 with h3 | h3
        · have := ok.nm _ _ h3 hm; omega
        · have := ok.nm _ _ h3 (h.sm _ h2); omega
      · rw [at_o i (nx hi) e]; exact h.qs i hi
    · rw [at_x]; exact List.Pairwise.nil
  · rintro i (hi | rfl)
    · by_cases e : i = p
      · subst e; rw [at_p]
        intro y hy
        rcases List.mem_cons.mp (ins_perm.mem_iff.mp hy) with rfl | hy
        · dsimp only; rw [hc0]; exact hlv
        · exact h.ql i hi y hy
      · rw [at_o i (nx hi) e]; exact h.ql i hi
    · rw [at_x]; intro y hy; cases hy
  · rintro i (hi | rfl) hi0
    · rw [sm (·.df) (fun _ _ _ => rfl) i (nx hi)]; exact h.df i hi hi0
    · rw [at_x, hc0]; simp
  · exact h.pr i j hi kj
  · rw [sm (·.lw) (fun _ _ _ => rfl) i (nx (h.bs i hi).1)]; exact h.lw i j hi kj
  · rintro i (hi | rfl) hnb
    · rw [sm (·.lw) (fun _ _ _ => rfl) i (nx hi)]; exact h.lf i hi hnb
    · rw [at_x]
/-- who is still to be laid -/
structure Todo (m : Nat) (pl : Pl) (S B : Nat → Prop) (c : Nat → Int) (todo : List Nat) : Prop where
  nd : todo.Nodup
  a : ∀ x ∈ todo, 0 < x ∧ x < m ∧ ¬ S x ∧ B (pl.pa x)
  lo : ∀ x ∈ todo, x % 2 = 1 → c (x + 1) = 0
  hi : ∀ x ∈ todo, x % 2 = 0 → (pl.sk (pl.pa x) = 0 → c (x - 1) = 0) ∧ (0 < pl.sk (pl.pa x) → c (x - 1) = pl.sk (pl.pa x) + 1)
  full : ∀ p j, B p → Kid m pl p j → (S j ∨ j ∈ todo) ∧ ((S (j + 1) ∨ j + 1 ∈ todo) ↔ pl.sk p = 0 ∨ pl.sk p < c j)
structure LayInv (m : Nat) (pl : Pl) (S B : Nat → Prop) (c : Nat → Int) (T : Nat → Nd) (todo : List Nat) : Prop where
  l : LInv m pl S B c T
  op : ∀ p, S p → (B p ↔ pl.hs p ≠ [] ∧ pl.wa p ≤ c p)
  sum : ∀ p j, B p → Kid m pl p j → c p = pl.wa p + c j + c (j + 1)
  td : Todo m pl S B c todo
theorem LayInv.done (h : LayInv m pl S B c T []) : GInv m pl S B c T :=
  ⟨h.l, h.op, h.sum, fun p j hp k => by
    obtain ⟨a, b⟩ := h.td.full p j hp k
    exact ⟨a.resolve_right (by nofun), ⟨fun q => b.mp (.inl q), fun q => (b.mpr q).resolve_right (by nofun)⟩⟩⟩
def firsts (pl : Pl) (x : Nat) : List Nat := if 0 < pl.sk x then (pl.hs x).take 1 else pl.hs x
theorem Kid.firsts {p j : Nat} (k : Kid m pl p j) : (firsts pl p).Nodup ∧ ∀ x, x ∈ firsts pl p ↔ (x = j ∨ (x = j + 1 ∧ pl.sk p = 0)) := by
  have s0 := k.pair.s0
  unfold Mini.firsts
  by_cases hs : 0 < pl.sk p
  · rw [if_pos hs]
    rcases k.hs with e | ⟨_, e⟩
    · rw [e]
      refine ⟨by simp, fun x => ?_⟩
      simp only [List.take_succ_cons, List.take_zero, List.mem_singleton]
      constructor
      · exact .inl
      · rintro (q | q)
        · exact q
        · omega
    · omega
  · rw [if_neg hs]
    constructor
    · rcases k.hs with e | ⟨e, _⟩ <;> rw [e] <;> simp
    · intro x
      rw [k.mem]
      constructor
      · rintro (q | q)
        · exact .inl q
        · exact .inr ⟨q, by omega⟩
      · rintro (q | q)
        · exact .inl q
        · exact .inr q.1
theorem LayInv.level (ok : PlOk m pl) {todo : List Nat} {x : Nat} (hx : x ∈ todo) (h : LayInv m pl S B c T todo) : (T (pl.pa x)).lw = pl.lev x 0 := by
  obtain ⟨h0, hm, hS, hB⟩ := h.td.a x hx
  have k := ok.par x h0 hm
  have hc0 := h.l.un x hS
  have hlw := h.l.lw _ _ hB k
  obtain ⟨hodd, hcase⟩ := lowOf_cases x h0
  have w := ok.w h0 hm
  unfold Pl.lev
  by_cases ho : x % 2 = 1
  · have e := lowOf_odd ho
    rw [e] at hlw
    rw [hlw.1 hc0 (h.td.lo x hx ho), if_pos ho]; simp
  · have e : lowOf x = x - 1 := by omega
    rw [e, show x - 1 + 1 = x by omega] at hlw
    have hh := h.td.hi x hx (by omega)
    rw [if_neg ho]
    by_cases hs : pl.sk (pl.pa x) = 0
    · rw [hlw.1 (hh.1 hs) hc0, hs]; simp
    · have hs : 0 < pl.sk (pl.pa x) := by omega
      rw [hlw.2 hs hc0 (by rw [hh.2 hs]; omega), hh.2 hs, show pl.sk (pl.pa x) + 1 - 1 = pl.sk (pl.pa x) by omega]
      simp
end
end Mini

end

section
set_option autoImplicit false
namespace Mini
open PySem
section
variable {m : Nat} {pl : Pl} {S B : Nat → Prop} {c : Nat → Int} {T : Nat → Nd}
def insT (pl : Pl) (T : Nat → Nd) (x : Nat) : Nat → Nd :=
  upd (upd T x ⟨pl.wt x, true, 0, 0, [], [], some (pl.pa x)⟩) (pl.pa x) { T (pl.pa x) with q := ins pl.num ((T (pl.pa x)).lw, x) (T (pl.pa x)).q, ch := (T (pl.pa x)).ch ++ [x] }
/-- the foremost of the list is laid -/
theorem LayInv.leaf (ok : PlOk m pl) {x : Nat} {rest : List Nat} (h : LayInv m pl S B c T (x :: rest)) (hw : pl.wa x ≠ 0) :
    LayInv m pl (fun i => S i ∨ i = x) B c (insT pl T x) rest := by
  obtain ⟨h0, hm, hS, hB⟩ := h.td.a x List.mem_cons_self
  have hlv := h.level ok List.mem_cons_self
  have hnd := List.nodup_cons.mp h.td.nd
  have hnB : ¬ B x := fun q => hS (h.l.bs x q).1
  refine ⟨h.l.insert ok h0 hm hS hB hlv, ?_, h.sum, ⟨hnd.2, fun y hy => ?_, fun y hy => h.td.lo y (List.mem_cons_of_mem _ hy), fun y hy => h.td.hi y (List.mem_cons_of_mem _ hy), fun p j hp k => ?_⟩⟩
  · rintro p (hp | rfl)
    · exact h.op p hp
    · rw [h.l.un p hS]
      refine ⟨fun q => absurd q hnB, fun ⟨a, b⟩ => ?_⟩
      have := ok.wa3 p hm a
      omega
  · obtain ⟨a, b, d, e⟩ := h.td.a y (List.mem_cons_of_mem _ hy)
    refine ⟨a, b, ?_, e⟩
    rintro (q | q)
    · exact d q
    · exact hnd.1 (q ▸ hy)
  · obtain ⟨a, b⟩ := h.td.full p j hp k
    have sw : ∀ y, (S y ∨ y ∈ x :: rest) ↔ ((S y ∨ y = x) ∨ y ∈ rest) := by
      intro y; rw [List.mem_cons, or_assoc]
    exact ⟨(sw j).mp a, (sw (j + 1)).symm.trans b⟩
theorem LayInv.opened (ok : PlOk m pl) {x : Nat} {rest : List Nat} (h : LayInv m pl S B c T (x :: rest)) (hw : pl.wa x = 0) :
    LayInv m pl (fun i => S i ∨ i = x) (fun i => B i ∨ i = x) c (upd (insT pl T x) x { insT pl T x x with act := false }) (rest ++ firsts pl x) := by
  obtain ⟨h0, hm, hS, hB⟩ := h.td.a x List.mem_cons_self
  have hlv := h.level ok List.mem_cons_self
  have hnd := List.nodup_cons.mp h.td.nd
  have hnB : ¬ B x := fun q => hS (h.l.bs x q).1
  have hne : pl.hs x ≠ [] := fun e => by have := ok.wl x hm e (by omega); omega
  obtain ⟨l, kx⟩ := (ok.kids x hm).resolve_left hne
  have hI := (h.l.insert (ch := (T (pl.pa x)).ch ++ [x]) (par := some (pl.pa x)) ok h0 hm hS hB hlv)
  have hno := h.l.nokid ok hnB kx
  have hlt := kx.lt
  obtain ⟨f1, f2⟩ := kx.firsts
  have hfx : ∀ y ∈ firsts pl x, (y = l ∨ y = l + 1) ∧ pl.pa y = x ∧ ¬ S y := by
    intro y hy
    rcases (f2 y).mp hy with rfl | ⟨rfl, _⟩
    · exact ⟨.inl rfl, kx.pj, hno.1⟩
    · exact ⟨.inr rfl, kx.pj1, hno.2.1⟩
  refine ⟨hI.block ok (.inr rfl) hnB hne, ?_, ?_, ⟨?_, fun y hy => ?_, fun y hy => ?_, fun y hy => ?_, fun p j hp k => ?_⟩⟩
  · intro p hp
    by_cases e : p = x
    · subst e
      rw [h.l.un p hS, hw]
      exact ⟨fun _ => ⟨hne, Int.le_refl _⟩, fun _ => .inr rfl⟩
    · rw [← h.op p (hp.resolve_right e)]
      exact ⟨fun q => q.resolve_right e, .inl⟩
  · rintro p j (hp | rfl) k
    · exact h.sum p j hp k
    · have := h.l.nokid ok hnB k
      rw [h.l.un p hS, hw, this.2.2.1, this.2.2.2]; rfl
  · rw [List.nodup_append]
    refine ⟨hnd.2, f1, fun a ha b hb e => ?_⟩
    subst e
    have h1 := (h.td.a a (List.mem_cons_of_mem _ ha)).2.2.2
    rw [(hfx a hb).2.1] at h1
    exact hnB h1
  · rcases List.mem_append.mp hy with hy | hy
    · obtain ⟨a, b, d, e⟩ := h.td.a y (List.mem_cons_of_mem _ hy)
      refine ⟨a, b, ?_, .inl e⟩
      rintro (q | q)
      · exact d q
      · exact hnd.1 (q ▸ hy)
    · obtain ⟨a, b, d⟩ := hfx y hy
      have := kx.jm
      refine ⟨by omega, by omega, ?_, .inr b⟩
      rintro (q | q)
      · exact d q
      · omega
  · rcases List.mem_append.mp hy with hy | hy
    · exact h.td.lo y (List.mem_cons_of_mem _ hy)
    · intro ho
      have := kx.odd
      rcases (hfx y hy).1 with rfl | rfl
      · exact hno.2.2.2
      · omega
  · rcases List.mem_append.mp hy with hy | hy
    · exact h.td.hi y (List.mem_cons_of_mem _ hy)
    · intro ho
      have := kx.odd
      rcases (f2 y).mp hy with rfl | ⟨rfl, hs⟩
      · omega
      · rw [kx.pj1]
        exact ⟨fun _ => hno.2.2.1, fun q => by omega⟩
  · by_cases e : p = x
    · subst e
      have := k.uniq kx
      subst this
      rw [hno.2.2.1]
      have s0 := k.pair.s0
      refine ⟨.inr (List.mem_append.mpr (.inr ((f2 j).mpr (.inl rfl)))), ?_⟩
      constructor
      · rintro ((q | q) | q)
        · exact absurd q hno.2.1
        · omega
        · rcases List.mem_append.mp q with q | q
          · have h1 := (h.td.a _ (List.mem_cons_of_mem _ q)).2.2.2
            rw [k.pj1] at h1
            exact absurd h1 hnB
          · rcases (f2 _).mp q with q | q
            · omega
            · exact .inl q.2
      · rintro (q | q)
        · exact .inr (List.mem_append.mpr (.inr ((f2 _).mpr (.inr ⟨rfl, q⟩))))
        · omega
    · have hp := hp.resolve_right e
      obtain ⟨a, b⟩ := h.td.full p j hp k
      have sw : ∀ y, pl.pa y = p → ((S y ∨ y ∈ x :: rest) ↔ ((S y ∨ y = x) ∨ y ∈ rest ++ firsts pl x)) := by
        intro y hy
        have : y ∉ firsts pl x := fun q => e (by rw [← hy]; exact (hfx y q).2.1)
        rw [List.mem_cons, List.mem_append, or_assoc]
        simp only [this, or_false]
      exact ⟨(sw j k.pj).mp a, (sw (j + 1) k.pj1).symm.trans b⟩
/-- the rows that a turn brings -/
def RowOf (pl : Pl) (c : Nat → Int) (js : List Nat) (f : Nat) (x : Nat) : Prop :=
  (c f + 1 = pl.wa f ∧ x ∈ firsts pl f) ∨ ∃ j ∈ js, 0 < pl.sk (pl.pa j) ∧ j % 2 = 1 ∧ c j = pl.sk (pl.pa j) ∧ x = j + 1
def tick (c : Nat → Int) (js : List Nat) : Nat → Int := bumps (upd c 0 (c 0 + 1)) js
theorem LInv.tick (ok : PlOk m pl) (h : LInv m pl S B c T) {d : Int} (hd : 0 ≤ d) : LInv m pl S B (upd c 0 d) T := by
  have co : ∀ i, i ≠ 0 → upd c 0 d i = c i := fun i hi => upd_ne hi
  refine ⟨h.s0, h.b0, h.sm, h.bs, h.sp, fun x hx => ?_, fun x => ?_, h.ac, h.w, h.qm, h.qn, h.qs, fun x hx y hy => ?_, fun x hx h0 => ?_, fun x i hx ki => ?_, fun x i hx ki => ?_, h.lf⟩
  · rw [co x (fun e => hx (e ▸ h.s0))]; exact h.un x hx
  · by_cases e : x = 0
    · subst e; rw [upd_eq]; exact hd
    · rw [co x e]; exact h.cn x
  · have hk := ((h.qm x hx y.2).mp (List.mem_map.mpr ⟨y, hy, rfl⟩)).1
    have : y.2 ≠ 0 := by
      rcases ok.kids x (h.sm x hx) with e0 | ⟨l, k⟩
      · rw [e0] at hk; cases hk
      · have := k.mem.mp hk; have := k.lt; omega
    rw [co _ this]; exact h.ql x hx y hy
  · rw [co x h0]; exact h.df x hx h0
  · have := ki.lt
    rw [co i (by omega), co (i + 1) (by omega)]; exact h.pr x i hx ki
  · have := ki.lt
    rw [co i (by omega), co (i + 1) (by omega)]; exact h.lw x i hx ki
end
end Mini

end

section
set_option autoImplicit false
namespace Mini
open PySem
section
variable {m : Nat} {pl : Pl} {S B : Nat → Prop} {c : Nat → Int} {T : Nat → Nd}
theorem Ch.succ (ok : PlOk m pl) {p f : Nat} {js : List Nat} (h : Ch m pl S B c p js f) : ∀ x ∈ p :: js, x ≠ f → ∃ y ∈ js, pl.pa y = x ∧ ∀ z ∈ js, pl.pa z = x → z = y := by
  induction h with
  | nil => intro x hx hne; rw [List.mem_singleton] at hx; exact absurd hx hne
  | cons h0 hj hp hb hS hu h ih =>
    rename_i p j f js
    intro x hx hne
    have hlt := ok.pa_lt h0 hj
    rw [hp] at hlt
    rcases List.mem_cons.mp hx with rfl | hx
    · refine ⟨j, List.mem_cons_self, hp, fun z hz hpz => ?_⟩
      rcases List.mem_cons.mp hz with e | hz
      · exact e
      · exfalso
        rcases (h.gt ok z hz).2.2.2 with e | e
        · omega
        · have := (h.gt ok _ e).1; omega
    · obtain ⟨y, hy, hpy, hu⟩ := ih x hx hne
      refine ⟨y, List.mem_cons_of_mem _ hy, hpy, fun z hz hpz => ?_⟩
      rcases List.mem_cons.mp hz with e | hz
      · exfalso
        rw [e, hp] at hpz
        rcases List.mem_cons.mp hx with e | hx
        · omega
        · have := (h.gt ok x hx).1; omega
      · exact hu z hz hpz
theorem GInv.after (ok : PlOk m pl) (G : GInv m pl S B c T) {js rows : List Nat} {f : Nat} {B' : Nat → Prop} {T' : Nat → Nd} (hc : Ch m pl S B c 0 js f) (hne : js ≠ []) (hnb : ¬ B f) (L : LInv m pl S B' (tick c js) T')
    (hB : ∀ p, B' p ↔ B p ∨ (p = f ∧ c f + 1 = pl.wa f)) (hnd : rows.Nodup) (hr : ∀ x, x ∈ rows ↔ RowOf pl c js f x) : LayInv m pl S B' (tick c js) T' rows := by
  have hgt := hc.gt ok
  have hfj := hc.last hne
  have hfS := (hgt f hfj).2.2.1
  have hfm := (hgt f hfj).2.1
  have hf0 := (hgt f hfj).1
  have n0 : ∀ x ∈ js, x ≠ 0 := fun x hx e => by have := (hgt x hx).1; omega
  have tin : ∀ x ∈ js, tick c js x = c x + 1 := fun x hx => by
    unfold tick bumps; rw [if_pos hx, upd_ne (n0 x hx)]
  have tout : ∀ x, x ∉ js → x ≠ 0 → tick c js x = c x := fun x hx h0 => by
    unfold tick bumps; rw [if_neg hx, upd_ne h0]
  have t0 : tick c js 0 = c 0 + 1 := by
    unfold tick bumps; rw [if_neg (fun q => n0 0 q rfl), upd_eq]
  have kidout : ∀ {j}, Kid m pl f j → j ∉ js ∧ j + 1 ∉ js ∧ tick c js j = 0 ∧ tick c js (j + 1) = 0 ∧ ¬ S j ∧ ¬ S (j + 1) := by
    intro j k
    obtain ⟨a, b, d, e⟩ := G.l.nokid ok hnb k
    have h1 : j ∉ js := fun q => a (hgt j q).2.2.1
    have h2 : j + 1 ∉ js := fun q => b (hgt _ q).2.2.1
    have := k.lt
    exact ⟨h1, h2, by rw [tout j h1 (by omega), d], by rw [tout _ h2 (by omega), e], a, b⟩
  have flip : c f + 1 = pl.wa f → ∃ l, Kid m pl f l := fun e => by
    refine (ok.kids f hfm).resolve_left fun q => ?_
    have := ok.wl f hfm q (by omega)
    have := G.l.cn f
    omega
  refine ⟨L, fun p hp => ?_, fun p j hp k => ?_, ⟨hnd, fun x hx => ?_, fun x hx ho => ?_, fun x hx ho => ?_, fun p j hp k => ?_⟩⟩
  · rw [hB p]
    have hop := G.op p hp
    by_cases e : p = f
    · subst e
      rw [tin p hfj]
      constructor
      · rintro (q | ⟨_, q⟩)
        · exact absurd q hnb
        · obtain ⟨l, k⟩ := flip q
          exact ⟨k.hne, by omega⟩
      · rintro ⟨a, b⟩
        refine .inr ⟨rfl, ?_⟩
        have : ¬ (pl.wa p ≤ c p) := fun q => hnb (hop.mpr ⟨a, q⟩)
        omega
    · have h1 : (B p ∨ (p = f ∧ c f + 1 = pl.wa f)) ↔ B p := ⟨fun q => q.resolve_right (fun x => e x.1), .inl⟩
      rw [h1, hop]
      by_cases h0 : p = 0
      · subst h0
        have := (hop.mp G.l.b0)
        rw [t0]
        exact ⟨fun q => ⟨q.1, by omega⟩, fun _ => this⟩
      · by_cases hj : p ∈ js
        · have := hop.mp (hc.inner p (List.mem_cons_of_mem _ hj) e)
          rw [tin p hj]
          exact ⟨fun q => ⟨q.1, by omega⟩, fun _ => this⟩
        · rw [tout p hj h0]
  · rcases (hB p).mp hp with hb | ⟨rfl, hw⟩
    · have hs := G.sum p j hb k
      have hpf : p ≠ f := fun e => hnb (e ▸ hb)
      have hlt := k.lt
      by_cases hp0 : p ∈ 0 :: js
      · obtain ⟨y, hy, hpy, hu⟩ := hc.succ ok p hp0 hpf
        have htp : tick c js p = c p + 1 := by
          rcases List.mem_cons.mp hp0 with rfl | hp0
          · exact t0
          · exact tin p hp0
        have hyk := ok.par y (Nat.pos_of_ne_zero (n0 y hy)) (hgt y hy).2.1
        rw [hpy] at hyk
        have hl := hyk.uniq k
        have hcs := (lowOf_cases y (Nat.pos_of_ne_zero (n0 y hy))).2
        rw [hl] at hcs
        rcases hcs with rfl | rfl
        · have h2 : y + 1 ∉ js := fun q => by have := hu _ q k.pj1; omega
          rw [htp, tin y hy, tout _ h2 (by omega)]; omega
        · have h2 : j ∉ js := fun q => by have := hu _ q k.pj; omega
          rw [htp, tin _ hy, tout _ h2 (by omega)]; omega
      · have hno : ∀ x, pl.pa x = p → x ∉ js := fun x hx hm => by
          rcases (hgt x hm).2.2.2 with e | e
          · exact hp0 (by rw [← hx, e]; exact List.mem_cons_self)
          · exact hp0 (by rw [← hx]; exact List.mem_cons_of_mem _ e)
        rw [tout p (fun q => hp0 (List.mem_cons_of_mem _ q)) (fun e => hp0 (e ▸ List.mem_cons_self)), tout j (hno j k.pj) (by omega), tout (j + 1) (hno _ k.pj1) (by omega)]
        exact hs
    · obtain ⟨_, _, h3, h4, _⟩ := kidout k
      rw [tin p hfj, h3, h4]; omega
  · rcases (hr x).mp hx with ⟨hw, hx⟩ | ⟨j, hj, hs, ho, hcj, rfl⟩
    · obtain ⟨l, k⟩ := flip hw
      have hk := kidout k
      have hlt := k.lt
      have hjm := k.jm
      rcases (k.firsts.2 x).mp hx with rfl | ⟨rfl, _⟩
      · exact ⟨by omega, by omega, hk.2.2.2.2.1, (hB _).mpr (.inr ⟨k.pj, hw⟩)⟩
      · exact ⟨by omega, by omega, hk.2.2.2.2.2, (hB _).mpr (.inr ⟨k.pj1, hw⟩)⟩
    · have hj0 := n0 j hj
      have k := ok.par j (by omega) (hgt j hj).2.1
      rw [lowOf_odd ho] at k
      have hb := G.l.sp j (hgt j hj).2.2.1 hj0
      refine ⟨by omega, k.jm, fun q => ?_, ?_⟩
      · have := (G.full _ j hb k).2.mp q
        omega
      · rw [k.pj1]; exact (hB _).mpr (.inl hb)
  · rcases (hr x).mp hx with ⟨hw, hx⟩ | ⟨j, hj, hs, ho', hcj, rfl⟩
    · obtain ⟨l, k⟩ := flip hw
      have := k.odd
      rcases (k.firsts.2 x).mp hx with rfl | ⟨rfl, _⟩
      · exact (kidout k).2.2.2.1
      · omega
    · omega
  · rcases (hr x).mp hx with ⟨hw, hx⟩ | ⟨j, hj, hs, ho', hcj, rfl⟩
    · obtain ⟨l, k⟩ := flip hw
      have := k.odd
      rcases (k.firsts.2 x).mp hx with rfl | ⟨rfl, hz⟩
      · omega
      · rw [k.pj1]
        exact ⟨fun _ => (kidout k).2.2.1, fun q => by omega⟩
    · have hj0 := n0 j hj
      have k := ok.par j (by omega) (hgt j hj).2.1
      rw [lowOf_odd ho'] at k
      rw [k.pj1]
      refine ⟨fun q => by omega, fun _ => ?_⟩
      rw [show j + 1 - 1 = j from rfl, tin j hj, hcj]
  · have s0 := k.pair.s0
    rcases (hB p).mp hp with hb | ⟨rfl, hw⟩
    · have hpf : p ≠ f := fun e => hnb (e ▸ hb)
      obtain ⟨a, b⟩ := G.full p j hb k
      refine ⟨.inl a, ?_⟩
      have hlt := k.lt
      have hrow : j + 1 ∈ rows ↔ (j ∈ js ∧ 0 < pl.sk p ∧ c j = pl.sk p) := by
        rw [hr]
        constructor
        · rintro (⟨hw, hx⟩ | ⟨i, hi, hs, ho, hci, e⟩)
          · exfalso
            obtain ⟨l, kl⟩ := flip hw
            rcases (kl.firsts.2 _).mp hx with e | ⟨e, _⟩
            · exact hpf (by rw [← k.pj1, e]; exact kl.pj)
            · exact hpf (by rw [← k.pj1, e]; exact kl.pj1)
          · have : i = j := by omega
            subst this
            rw [k.pj] at hs hci
            exact ⟨hi, hs, hci⟩
        · rintro ⟨h1, h2, h3⟩
          exact .inr ⟨j, h1, by rw [k.pj]; exact h2, k.odd, by rw [k.pj]; exact h3, rfl⟩
      rw [hrow, b]
      by_cases hj : j ∈ js
      · rw [tin j hj]
        constructor
        · rintro (q | ⟨_, q, q'⟩) <;> omega
        · intro q
          by_cases h1 : pl.sk p = 0 ∨ pl.sk p < c j
          · exact .inl h1
          · exact .inr ⟨hj, by omega, by omega⟩
      · rw [tout j hj (by omega)]
        exact ⟨fun q => q.resolve_right (fun x => hj x.1), .inl⟩
    · obtain ⟨_, _, h3, h4, h5, h6⟩ := kidout k
      have hlt := k.lt
      rw [h3]
      refine ⟨.inr ((hr j).mpr (.inl ⟨hw, (k.firsts.2 j).mpr (.inl rfl)⟩)), ?_⟩
      constructor
      · rintro (q | q)
        · exact absurd q h6
        · rcases (hr _).mp q with ⟨_, q⟩ | ⟨i, hi, hs, ho, hci, e⟩
          · rcases (k.firsts.2 _).mp q with e | e
            · omega
            · exact .inl e.2
          · have : i = j := by omega
            subst this
            exact absurd (hgt i hi).2.2.1 h5
      · rintro (q | q)
        · exact .inr ((hr _).mpr (.inl ⟨hw, (k.firsts.2 _).mpr (.inr ⟨rfl, q⟩)⟩))
        · omega
theorem LayInv.start (ok : PlOk m pl) (h0 : pl.hs 0 ≠ []) (hm : 0 < m) (hT : T 0 = ⟨1, false, 0, 0, [], [], none⟩) : LayInv m pl (fun i => i = 0) (fun i => i = 0) (fun _ => 0) T (firsts pl 0) := by
  obtain ⟨l, k⟩ := (ok.kids 0 hm).resolve_left h0
  have s0 := k.pair.s0
  have hlt := k.lt
  refine ⟨⟨rfl, rfl, ?_, ?_, ?_, fun _ _ => rfl, fun _ => Int.le_refl _, ?_, ?_, ?_, ?_, ?_, ?_, ?_, ?_, ?_, ?_⟩, ?_, ?_, ⟨k.firsts.1, ?_, fun _ _ _ => rfl, ?_, ?_⟩⟩
  · rintro j rfl; exact hm
  · rintro p rfl; exact ⟨rfl, h0⟩
  · rintro j rfl q; exact absurd rfl q
  · rintro p rfl; rw [hT]; exact ⟨fun _ => rfl, fun _ => rfl⟩
  · rintro p rfl q; exact absurd rfl q
  · rintro p rfl j
    rw [hT]
    refine ⟨fun q => (by cases q), fun ⟨a, b⟩ => ?_⟩
    subst b
    have := k.mem.mp a
    omega
  · rintro p rfl; rw [hT]; exact List.nodup_nil
  · rintro p rfl; rw [hT]; exact List.Pairwise.nil
  · rintro p rfl; rw [hT]; intro x hx; cases hx
  · rintro p rfl q; exact absurd rfl q
  · rintro p j rfl kj
    have := kj.pair.s0
    exact ⟨fun _ => rfl, fun q => by omega⟩
  · rintro p j rfl kj
    rw [hT]
    exact ⟨fun _ _ => rfl, fun _ _ q => by omega⟩
  · rintro p rfl q; exact absurd rfl q
  · rintro p rfl; exact ⟨fun _ => ⟨h0, by rw [ok.w0]; exact Int.le_refl _⟩, fun _ => rfl⟩
  · rintro p j rfl kj; rw [ok.w0]; rfl
  · intro x hx
    have hjm := k.jm
    rcases (k.firsts.2 x).mp hx with rfl | ⟨rfl, _⟩
    · exact ⟨by omega, by omega, by omega, k.pj⟩
    · exact ⟨by omega, by omega, by omega, k.pj1⟩
  · intro x hx ho
    have := k.odd
    rcases (k.firsts.2 x).mp hx with rfl | ⟨rfl, hz⟩
    · omega
    · rw [k.pj1]; exact ⟨fun _ => rfl, fun q => by omega⟩
  · rintro p j rfl kj
    have e := kj.uniq k
    subst e
    refine ⟨.inr ((k.firsts.2 _).mpr (.inl rfl)), ?_⟩
    constructor
    · rintro (q | q)
      · omega
      · rcases (k.firsts.2 _).mp q with e | e
        · omega
        · exact .inl e.2
    · rintro (q | q)
      · exact .inr ((k.firsts.2 _).mpr (.inr ⟨rfl, q⟩))
      · omega
end
end Mini

end

section
set_option autoImplicit false
namespace Mini
open PySem
def Pl.setN (pl : Pl) (node : Nat) (v s : Int) : Pl := { pl with wa := upd pl.wa node v, sk := upd pl.sk node s }
def Pl.add (pl : Pl) (m node : Nat) (num w n : Int) : Pl := ⟨upd pl.num m num, upd pl.pa m node, upd pl.wt m w, upd pl.wh m n, upd pl.wa m (-1), upd pl.sk m 0, upd (upd pl.hs node (pl.hs node ++ [m])) m []⟩
def Pl.rev (pl : Pl) (node : Nat) : Pl := { pl with hs := upd pl.hs node (pl.hs node).reverse }
theorem PlOk.ext2 {m : Nat} {pl pl' : Pl} {node : Nat} {v s a b n low high : Int} (ok : PlOk m pl) (hm : m % 2 = 1) (h9 : m + 2 ≤ 9) (hn : node < m) (hh : pl.hs node = []) (hv : 0 ≤ v ∧ v ≤ 3) (hv0 : node = 0 → v = 0) (hp : Pair a b n s) (hlow : ∀ i, i < m → pl.num i < low) (hl : low < high)
    (o1 : ∀ i, i < m → pl'.num i = pl.num i ∧ pl'.pa i = pl.pa i ∧ pl'.wt i = pl.wt i ∧ pl'.wh i = pl.wh i) (o2 : ∀ i, i < m → i ≠ node → pl'.wa i = pl.wa i ∧ pl'.sk i = pl.sk i ∧ pl'.hs i = pl.hs i)
    (n1 : pl'.wa node = v ∧ pl'.sk node = s ∧ (pl'.hs node = [m, m + 1] ∨ (pl'.hs node = [m + 1, m] ∧ s = 0)))
    (m1 : pl'.num m = low ∧ pl'.pa m = node ∧ pl'.wt m = a ∧ pl'.wh m = n ∧ pl'.wa m = -1 ∧ pl'.hs m = [])
    (m2 : pl'.num (m + 1) = high ∧ pl'.pa (m + 1) = node ∧ pl'.wt (m + 1) = b ∧ pl'.wh (m + 1) = n ∧ pl'.wa (m + 1) = -1 ∧ pl'.hs (m + 1) = []) : PlOk (m + 2) pl' := by
  have kn : Kid (m + 2) pl' node m := ⟨hm, hn, by omega, m1.2.1, m2.2.1, by rw [n1.2.1]; exact n1.2.2, by rw [m1.2.2.1, m2.2.2.1, m1.2.2.2.1, n1.2.1]; exact hp, by rw [m1.2.2.2.1, m2.2.2.2.1]⟩
  have ko : ∀ p j, p < m → Kid m pl p j → Kid (m + 2) pl' p j := by
    intro p j hpm k
    have hne : p ≠ node := fun e => k.hne (e ▸ hh)
    have h1 := k.lt
    have h2 := k.jm
    obtain ⟨_, x2, x3⟩ := o2 p hpm hne
    obtain ⟨_, y2, y3, y4⟩ := o1 j (by omega)
    obtain ⟨_, z2, z3, z4⟩ := o1 (j + 1) h2
    exact ⟨k.odd, h1, by omega, by rw [y2]; exact k.pj, by rw [z2]; exact k.pj1, by rw [x2, x3]; exact k.hs, by rw [y3, z3, y4, x2]; exact k.pair, by rw [y4, z4]; exact k.wh⟩
  have cs : ∀ {i}, i < m + 2 → i < m ∨ i = m ∨ i = m + 1 := by omega
  have hmm : m ≠ node := by omega
  have hmm1 : m + 1 ≠ node := by omega
  refine ⟨fun p hpm => ?_, fun j h0 hj => ?_, fun p hpm hne => ?_, fun p hpm he h0 => ?_, ?_, fun i j hij hj => ?_, ?_, h9⟩
  · rcases cs hpm with h | rfl | rfl
    · by_cases e : p = node
      · subst e; exact .inr ⟨m, kn⟩
      · rcases ok.kids p h with q | ⟨j, k⟩
        · exact .inl (by rw [(o2 p h e).2.2]; exact q)
        · exact .inr ⟨j, ko p j h k⟩
    · exact .inl m1.2.2.2.2.2
    · exact .inl m2.2.2.2.2.2
  · rcases cs hj with h | rfl | rfl
    · have k := ok.par j h0 h
      have hlt := ok.pa_lt h0 h
      rw [(o1 j h).2.1]
      exact ko _ _ (by omega) k
    · rw [m1.2.1, lowOf_odd hm]; exact kn
    · rw [m2.2.1, lowOf_even hm]; exact kn
  · rcases cs hpm with h | rfl | rfl
    · by_cases e : p = node
      · subst e; rw [n1.1]; exact hv
      · rw [(o2 p h e).1]
        rw [(o2 p h e).2.2] at hne
        exact ok.wa3 p h hne
    · exact absurd m1.2.2.2.2.2 hne
    · exact absurd m2.2.2.2.2.2 hne
  · rcases cs hpm with h | rfl | rfl
    · by_cases e : p = node
      · subst e
        rcases n1.2.2 with q | ⟨q, _⟩ <;> rw [q] at he <;> cases he
      · rw [(o2 p h e).1]
        rw [(o2 p h e).2.2] at he
        exact ok.wl p h he h0
    · exact m1.2.2.2.2.1
    · exact m2.2.2.2.2.1
  · by_cases e : 0 = node
    · rw [e, n1.1]; exact hv0 e.symm
    · rw [(o2 0 (by omega) e).1]; exact ok.w0
  · rcases cs hj with h | rfl | rfl
    · rw [(o1 i (by omega)).1, (o1 j h).1]; exact ok.nm i j hij h
    · rw [(o1 i hij).1, m1.1]; exact hlow i hij
    · rw [m2.1]
      by_cases e : i = m
      · rw [e, m1.1]; exact hl
      · have hi : i < m := by omega
        rw [(o1 i hi).1]
        have := hlow i hi
        omega
  · rw [(o1 0 (by omega)).1]; exact ok.n0
theorem PlOk.fork {m : Nat} {pl : Pl} {node : Nat} {v s a b n low high : Int} {r : Bool} (ok : PlOk m pl) (hm : m % 2 = 1) (h9 : m + 2 ≤ 9) (hn : node < m) (hh : pl.hs node = []) (hv : 0 ≤ v ∧ v ≤ 3) (hv0 : node = 0 → v = 0) (hp : Pair a b n s) (hlow : ∀ i, i < m → pl.num i < low) (hl : low < high) (hr : r = true → s = 0) :
    PlOk (m + 2) (if r then (((pl.setN node v s).add m node low a n).add (m + 1) node high b n).rev node else ((pl.setN node v s).add m node low a n).add (m + 1) node high b n) := by
  have hmm : node ≠ m := by omega
  have hmm1 : node ≠ m + 1 := by omega
  have e1 : m ≠ m + 1 := by omega
  have e2 : m ≠ node := by omega
  have e3 : m + 1 ≠ node := by omega
  have e4 : m + 1 ≠ m := by omega
  refine ok.ext2 hm h9 hn hh hv hv0 hp hlow hl (fun i hi => ?_) (fun i hi hne => ?_) ?_ ?_ ?_
  · have i1 : i ≠ m := by omega
    have i2 : i ≠ m + 1 := by omega
    cases r <;> simp [Pl.rev, Pl.add, Pl.setN, upd, i1, i2]
  · have i1 : i ≠ m := by omega
    have i2 : i ≠ m + 1 := by omega
    cases r <;> simp [Pl.rev, Pl.add, Pl.setN, upd, i1, i2, hne]
  · cases r
    · simp [Pl.add, Pl.setN, upd, hmm, hmm1, hh]
    · simp [Pl.rev, Pl.add, Pl.setN, upd, hmm, hmm1, hh, hr rfl]
  · cases r <;> simp [Pl.rev, Pl.add, Pl.setN, upd, e1, e2]
  · cases r <;> simp [Pl.rev, Pl.add, Pl.setN, upd, e3]
theorem pow_tab : ∀ b t : Fin 8, t.1 ≤ b.1 → (1 : Int) ≤ 1 * 2 ^ t.1 ∧ (1 : Int) * 2 ^ t.1 + 1 ≤ 2 * 2 ^ b.1 ∧ (256 : Int) = 1 * 2 ^ t.1 * (256 / (1 * 2 ^ t.1)) ∧ (2 : Int) * 2 ^ b.1 ≤ 256 ∧ (256 : Int) = 2 * 2 ^ b.1 * (256 / (2 * 2 ^ b.1)) := by decide
theorem pair_pow {bits : Nat} (hb : bits ≤ 7) : (2 : Int) * 2 ^ bits ≤ 256 ∧ 2 ≤ (2 : Int) * 2 ^ bits ∧ ∃ c : Int, 256 = 2 * 2 ^ bits * c := by
  obtain ⟨h1, h2, h3, h4, h5⟩ := pow_tab ⟨bits, by omega⟩ ⟨bits, by omega⟩ (Nat.le_refl _)
  dsimp only at h1 h2 h3 h4 h5
  exact ⟨h4, by omega, _, h5⟩
theorem share_pow {t bits : Nat} (hb : bits ≤ 7) (ht : t ≤ bits) : 1 ≤ (1 : Int) * 2 ^ t ∧ (1 : Int) * 2 ^ t + 1 ≤ 2 * 2 ^ bits ∧ ∃ c : Int, 256 = 1 * 2 ^ t * c := by
  obtain ⟨h1, h2, h3, h4, h5⟩ := pow_tab ⟨bits, by omega⟩ ⟨t, by omega⟩ ht
  dsimp only at h1 h2 h3 h4 h5
  exact ⟨h1, h2, _, h3⟩
end Mini

end

section
set_option autoImplicit false
namespace Mini
open PySem
theorem fork_hs {pl : Pl} {m node : Nat} {v s a b n low high : Int} {r : Bool} (hn : node < m) (hh : pl.hs node = []) (pl' : Pl) (e : pl' = if r then (((pl.setN node v s).add m node low a n).add (m + 1) node high b n).rev node else ((pl.setN node v s).add m node low a n).add (m + 1) node high b n) :
    (∀ t, t ≠ node → t < m → pl'.hs t = pl.hs t) ∧ pl'.hs m = [] ∧ pl'.hs (m + 1) = [] ∧ pl'.hs node ≠ [] ∧ (∀ j, j < m → pl'.num j = pl.num j) ∧ pl'.num m = low ∧ pl'.num (m + 1) = high := by
  subst e
  have hmm : node ≠ m := by omega
  have hmm1 : node ≠ m + 1 := by omega
  have e1 : m ≠ m + 1 := by omega
  have e2 : m ≠ node := by omega
  have e3 : m + 1 ≠ node := by omega
  refine ⟨fun t h1 h2 => ?_, ?_, ?_, ?_, fun j hj => ?_, ?_, ?_⟩
  · have i1 : t ≠ m := by omega
    have i2 : t ≠ m + 1 := by omega
    cases r <;> simp [Pl.rev, Pl.add, Pl.setN, upd, i1, i2, h1]
  · cases r <;> simp [Pl.rev, Pl.add, Pl.setN, upd, e2]
  · cases r <;> simp [Pl.rev, Pl.add, Pl.setN, upd, e3]
  · cases r <;> simp [Pl.rev, Pl.add, Pl.setN, upd, hmm, hmm1, hh]
  · have i1 : j ≠ m := by omega
    have i2 : j ≠ m + 1 := by omega
    cases r <;> simp [Pl.rev, Pl.add, Pl.setN, upd, i1, i2]
  · cases r <;> simp [Pl.rev, Pl.add, Pl.setN, upd]
  · cases r <;> simp [Pl.rev, Pl.add, Pl.setN, upd]
theorem tips_nodup {l : List Nat} {m : Nat} (h : l.Nodup) (hl : ∀ t ∈ l, t < m) : (l ++ [m] ++ [m + 1]).Nodup := by
  rw [List.append_assoc, List.nodup_append]
  refine ⟨h, by simp, fun a ha b hb e => ?_⟩
  have := hl a ha
  simp only [List.singleton_append, List.mem_cons, List.not_mem_nil, or_false] at hb
  omega
end Mini

end

section
set_option autoImplicit false
namespace Mini
open PySem
theorem upI_le {t w n s : Int} {lower : Bool} (hw : 1 ≤ w) (hn : 0 ≤ n ∧ n ≤ 256) (hs : 0 ≤ s ∧ s ≤ 3) (ht : 0 ≤ t) : upI t w n s lower ≤ 4 + 256 * t := by
  have hb : t * n ≤ t * 256 := Int.mul_le_mul_of_nonneg_left hn.2 ht
  unfold upI
  cases lower with
  | true =>
    simp only [if_true]
    by_cases h1 : t < s
    · rw [if_pos h1]; omega
    · rw [if_neg h1]
      have h2 : (s - t) * n = s * n - t * n := Int.sub_mul ..
      have h3 : 0 ≤ s * n := Int.mul_nonneg hs.1 hn.1
      have h4 : -(256 * t) ≤ (s - t) * n / w := by
        refine (Int.le_ediv_iff_mul_le (by omega)).mpr ?_
        have : -(256 * t) * w ≤ -(256 * t) * 1 := Int.mul_le_mul_of_nonpos_left (by omega) hw
        omega
      omega
  | false =>
    simp only [Bool.false_eq_true, if_false]
    have h4 : t * n / w ≤ t * n := Int.ediv_le_self _ (Int.mul_nonneg ht hn.1)
    omega
def bnd (one : Nat) : Int := 100 * 300 ^ (4 - (one + 1) / 2)
theorem bnd_pos (one : Nat) (h : 0 < one) : 100 ≤ bnd one ∧ bnd one ≤ 2700000000 := by
  unfold bnd
  have : 4 - (one + 1) / 2 = 0 ∨ 4 - (one + 1) / 2 = 1 ∨ 4 - (one + 1) / 2 = 2 ∨ 4 - (one + 1) / 2 = 3 := by omega
  rcases this with e | e | e | e <;> rw [e] <;> decide
theorem bnd_up {p j : Nat} (hj : j ≤ 8) (h : (p + 1) / 2 < (j + 1) / 2) {t : Int} (ht : t ≤ bnd j) : 7 + 256 * t ≤ bnd p := by
  unfold bnd at *
  have h1 : 4 - (j + 1) / 2 = 0 ∨ 4 - (j + 1) / 2 = 1 ∨ 4 - (j + 1) / 2 = 2 ∨ 4 - (j + 1) / 2 = 3 := by omega
  have h2 : 4 - (p + 1) / 2 = 0 ∨ 4 - (p + 1) / 2 = 1 ∨ 4 - (p + 1) / 2 = 2 ∨ 4 - (p + 1) / 2 = 3 ∨ 4 - (p + 1) / 2 = 4 := by omega
  rcases h1 with e | e | e | e <;> rcases h2 with e' | e' | e' | e' | e' <;> rw [e] at ht <;> rw [e'] <;> first | (exfalso; omega) | (simp at ht ⊢; omega)
theorem ints_len {l : List Int} {n : Nat} (h : l.Nodup) (hl : ∀ x ∈ l, 0 ≤ x ∧ x < n) : l.length ≤ n := by
  have := List.Nodup.length_le_of_subset h (l₂ := (List.range n).map fun (k : Nat) => (k : Int)) (fun x hx => by
    obtain ⟨a, b⟩ := hl x hx
    exact List.mem_map.mpr ⟨x.toNat, List.mem_range.mpr (by omega), by omega⟩)
  rw [List.length_map, List.length_range] at this
  exact this
theorem PlOk.pa_half {m : Nat} {pl : Pl} (ok : PlOk m pl) {j : Nat} (h0 : 0 < j) (hj : j < m) : (pl.pa j + 1) / 2 < (j + 1) / 2 := by
  have k := ok.par j h0 hj
  have := k.lt
  have := lowOf_cases j h0
  omega
/-- what is due -/
def DueR (m : Nat) (pl : Pl) (turns : Int) (lim : Nat) (cur : Int) (q : Int × Int) : Prop :=
  ∃ v k r, 0 < v ∧ v < m ∧ (v < lim ∨ (v = lim ∧ k < cur)) ∧ Valid pl v k ∧ Cl pl v k r ∧ r < turns ∧ q = (r, pl.num v)
end Mini

end

section
set_option autoImplicit false
namespace Mini
open PySem
section
variable {m : Nat} {pl : Pl} {turns k r : Int} {node : Nat}
theorem Cl.det {v : Nat} {k r : Int} (h : Cl pl v k r) : ∀ {r' : Int}, Cl pl v k r' → r = r' := by
  induction h with
  | top => intro r' h'; cases h' with | top => rfl | up h0 => omega
  | up h0 h ih => intro r' h'; cases h' with | top => omega | up _ h' => exact ih h'
theorem DueR.done (ok : PlOk m pl) (hn : 0 < node) (hm : node < m) (hc : Cl pl node k r) (hr : turns ≤ r) (q : Int × Int) : DueR m pl turns node k q ↔ DueR m pl turns (node + 1) 0 q := by
  constructor
  · rintro ⟨v, k', r', h0, h1, h2, h3, h4, h5, h6⟩
    exact ⟨v, k', r', h0, h1, .inl (by omega), h3, h4, h5, h6⟩
  · rintro ⟨v, k', r', h0, h1, h2, h3, h4, h5, h6⟩
    refine ⟨v, k', r', h0, h1, ?_, h3, h4, h5, h6⟩
    have hk := h3.2.1
    rcases h2 with h2 | ⟨_, h2⟩
    · by_cases e : v = node
      · subst e
        refine .inr ⟨rfl, Int.not_le.mp fun hle => ?_⟩
        by_cases e : k' = k
        · subst e; have := hc.det h4; omega
        · have := hc.mono ok hm (show k < k' by omega) h4; omega
      · exact .inl (by omega)
    · omega
theorem DueR.full (hk : k = pl.wa node) (h0k : 0 ≤ k) (q : Int × Int) : DueR m pl turns node k q ↔ DueR m pl turns (node + 1) 0 q := by
  constructor
  · rintro ⟨v, k', r', h0, h1, h2, h3, h4, h5, h6⟩
    exact ⟨v, k', r', h0, h1, .inl (by omega), h3, h4, h5, h6⟩
  · rintro ⟨v, k', r', h0, h1, h2, h3, h4, h5, h6⟩
    refine ⟨v, k', r', h0, h1, ?_, h3, h4, h5, h6⟩
    have hk' := h3.2
    rcases h2 with h2 | ⟨_, h2⟩
    · by_cases e : v = node
      · subst e; exact .inr ⟨rfl, by omega⟩
      · exact .inl (by omega)
    · omega
theorem DueR.step (hn : 0 < node) (hm : node < m) (hv : Valid pl node k) (hc : Cl pl node k r) (hr : r < turns) (q : Int × Int) : DueR m pl turns node (k + 1) q ↔ DueR m pl turns node k q ∨ q = (r, pl.num node) := by
  constructor
  · rintro ⟨v, k', r', h0, h1, h2, h3, h4, h5, h6⟩
    by_cases e : v = node ∧ k' = k
    · obtain ⟨rfl, rfl⟩ := e
      right; rw [h6, hc.det h4]
    · exact .inl ⟨v, k', r', h0, h1, by omega, h3, h4, h5, h6⟩
  · rintro (⟨v, k', r', h0, h1, h2, h3, h4, h5, h6⟩ | h)
    · exact ⟨v, k', r', h0, h1, by omega, h3, h4, h5, h6⟩
    · exact ⟨node, k, r, hn, hm, .inr ⟨rfl, by omega⟩, hv, hc, hr, h⟩
theorem DueR.fresh (ok : PlOk m pl) (hm : node < m) (hv : Valid pl node k) (hc : Cl pl node k r) (q : Int × Int) (h : DueR m pl turns node k q) : q.1 ≠ r := by
  obtain ⟨v, k', r', h0, h1, h2, h3, h4, h5, h6⟩ := h
  subst h6
  intro e
  dsimp only at e
  subst e
  have := h4.inj ok hc h1 hm h3 hv
  omega
end
end Mini

end

section
set_option autoImplicit false
namespace Mini
open PySem
theorem sorted_unique : ∀ {l l' : List (Int × Int)}, l.Perm l' → l.Pairwise (fun a b => a.1 < b.1) → l'.Pairwise (fun a b => a.1 < b.1) → l = l'
  | [], l', h, _, _ => (List.nil_perm.mp h).symm
  | a :: l, [], h, _, _ => by have := h.length_eq; simp at this
  | a :: l, b :: l', h, h1, h2 => by
    rw [List.pairwise_cons] at h1 h2
    have hab : a = b := by
      have ha : a ∈ b :: l' := h.mem_iff.mp List.mem_cons_self
      have hb : b ∈ a :: l := h.mem_iff.mpr List.mem_cons_self
      rcases List.mem_cons.mp ha with e | ha
      · exact e
      · rcases List.mem_cons.mp hb with e | hb
        · exact e.symm
        · have := h2.1 a ha
          have := h1.1 b hb
          omega
    subst hab
    rw [sorted_unique (List.Perm.cons_inv h) h1.2 h2.2]
theorem eqAll_pairs {σ : Store} : ∀ {ps qs : List (Nat × Int × Int)}, ps.map (·.2) = qs.map (·.2) → (∀ p ∈ ps, σ[p.1]? = some (.tup [.int p.2.1, .int p.2.2])) → (∀ p ∈ qs, σ[p.1]? = some (.tup [.int p.2.1, .int p.2.2])) →
    eqAll (eqv σ 2) (ps.map fun p => .obj p.1) (qs.map fun p => .obj p.1) = some true
  | [], [], _, _, _ => rfl
  | [], _ :: _, h, _, _ => by cases h
  | _ :: _, [], h, _, _ => by cases h
  | p :: ps, q :: qs, h, h1, h2 => by
    simp only [List.map_cons, List.cons.injEq] at h
    have e1 := h1 p List.mem_cons_self
    have e2 := h2 q List.mem_cons_self
    have ih := eqAll_pairs h.2 (fun x hx => h1 x (List.mem_cons_of_mem _ hx)) (fun x hx => h2 x (List.mem_cons_of_mem _ hx))
    rw [← h.1] at e2
    have : eqv σ 2 (.obj p.1) (.obj q.1) = some true := by
      unfold eqv; simp only [e1, e2]
      simp [eqAll, eqv]
    show (eqv σ 2 (.obj p.1) (.obj q.1)).bind (fun a => (eqAll (eqv σ 2) (ps.map fun p => .obj p.1) (qs.map fun p => .obj p.1)).map (a && ·)) = some true
    rw [this, ih]; rfl
theorem c_eqP {X : IX} {σ : Store} {n k : Nat} {ps qs : List (Nat × Int × Int)} {Q : AV → Store → Prop} (e1 : σ[n]? = some (.list (ps.map fun p => .obj p.1))) (e2 : σ[k]? = some (.list (qs.map fun p => .obj p.1))) (h : ps.map (·.2) = qs.map (·.2)) (h1 : ∀ p ∈ ps, σ[p.1]? = some (.tup [.int p.2.1, .int p.2.2])) (h2 : ∀ p ∈ qs, σ[p.1]? = some (.tup [.int p.2.1, .int p.2.2]))
    (hQ : Q (.bool true) σ) : W (cmpM X .Eq (.obj n) (.obj k) σ) Q := by
  have hi : isInst σ (.obj n) = false := by simp only [isInst, instCls, e1]; rfl
  have hl : ps.length = qs.length := by
    have := congrArg List.length h
    simpa using this
  have he : eqv σ 3 (.obj n) (.obj k) = some true := by
    unfold eqv; simp only [e1, e2, List.length_map, hl, beq_self_eq_true, if_true]
    exact eqAll_pairs h h1 h2
  unfold cmpM
  rw [hi]
  show W ((lift (cmpP .Eq (.obj n) (.obj k) σ) σ).bind _) Q
  have : cmpP .Eq (.obj n) (.obj k) σ = some true := he
  rw [this]; exact hQ
end Mini

end

section
set_option autoImplicit false
namespace Mini
open PySem
def cbAt : CB → Nat → CS
  | .nil, _ => .pass
  | .cons s _, 0 => s
  | .cons _ r, n + 1 => cbAt r n
def forBody : CS → CB
  | .forr _ _ b => b
  | _ => .nil
def arr (n : Nat) (f : Nat → Int) : List AV := (List.range n).map fun i => .int (f i)
theorem arr_len {n : Nat} {f : Nat → Int} : (arr n f).length = n := by simp [arr]
theorem arr_get {n i : Nat} {f : Nat → Int} {k : Int} (hk : k = i) (hi : i < n) : (arr n f)[k.toNat]? = some (.int (f i)) := by
  subst hk; unfold arr; rw [Int.toNat_natCast, List.getElem?_map, List.getElem?_range hi]; rfl
theorem arr_set {n i : Nat} {f : Nat → Int} {k v : Int} (hk : k = i) (hi : i < n) : (arr n f).set k.toNat (.int v) = arr n (upd f i v) := by
  subst hk
  unfold arr
  apply List.ext_getElem
  · simp
  · intro j h1 h2
    simp at h1 h2
    rw [List.getElem_set]
    simp only [Int.toNat_natCast, List.getElem_map, List.getElem_range]
    unfold upd
    by_cases e : i = j
    · subst e; simp
    · rw [if_neg e, if_neg (Ne.symm e)]
theorem arr_ints {n : Nat} {f : Nat → Int} : arr n f = ((List.range n).map f).map .int := by unfold arr; rw [List.map_map]; rfl
theorem arr_push {n : Nat} {f : Nat → Int} {v : Int} : arr n f ++ [.int v] = arr (n + 1) (upd f n v) := by
  unfold arr
  rw [List.range_succ, List.map_append, List.map_singleton, upd_eq]
  congr 1
  apply List.map_congr_left
  intro i hi
  rw [List.mem_range] at hi
  rw [upd_ne (by omega)]
theorem arr_congr {n : Nat} {f g : Nat → Int} (h : ∀ i, i < n → f i = g i) : arr n f = arr n g := by
  unfold arr
  apply List.map_congr_left
  intro i hi
  rw [List.mem_range] at hi
  rw [h i hi]
theorem rng_get {α : Type} {n i : Nat} {f : Nat → α} {k : Int} (hk : k = i) (hi : i < n) : ((List.range n).map f)[k.toNat]? = some (f i) := by
  subst hk; rw [Int.toNat_natCast, List.getElem?_map, List.getElem?_range hi]; rfl
theorem rng_push {α : Type} {n : Nat} {f : Nat → α} {v : α} : (List.range n).map f ++ [v] = (List.range (n + 1)).map (upd f n v) := by
  rw [List.range_succ, List.map_append, List.map_singleton, upd_eq]
  congr 1
  apply List.map_congr_left
  intro i hi
  rw [List.mem_range] at hi
  rw [upd_ne (by omega)]
theorem find_num {n f : Nat} {num : Nat → Int} (hf : f < n) (h : ∀ i, i < f → num i ≠ num f) : ((List.range n).map num).findIdx? (· == num f) = some f := by
  rw [List.findIdx?_eq_some_iff_getElem]
  refine ⟨by simpa using hf, by simp, fun j hj => ?_⟩
  simp only [List.getElem_map, List.getElem_range, beq_iff_eq]
  exact h j hj
theorem arr_zero {n : Nat} {k : Int} (h : k = n) : List.replicate k.toNat (AV.int 0) = arr n fun _ => 0 := by
  subst h; unfold arr; rw [Int.toNat_natCast, List.map_const', List.length_range]
/-- a statement, then the rest from what is known behind it -/
theorem s_cut {X : IX} {γ : List (Str × Nat)} {ρ : Loc} {σ : Store} {K : KS} {s : CS} {r : CB} (M : Loc → Store → Prop) (h : WS (exec X γ s ρ σ) { K with nxt := M }) (k : ∀ ρ σ, M ρ σ → WS (execs X γ r ρ σ) K) : WS (execs X γ (.cons s r) ρ σ) K :=
  s_cons (WS.mono h k (fun _ _ h => h) (fun _ _ h => h) (fun _ _ h => h))
abbrev natsV (l : List Nat) : AO := .list (l.map fun (j : Nat) => AV.int (j : Int))
theorem nats_get {l : List Nat} {i x : Nat} (h : l[i]? = some x) : (l.map fun (j : Nat) => AV.int (j : Int))[i]? = some (.int x) := by rw [List.getElem?_map, h]; rfl
/-- the law's lists -/
structure Pk (ns : List Int) (o : Obj) (m : Nat) (pl : Pl) (hA : Nat → Nat) (b : Nat) (σ : Store) : Prop where
  sc : σ[0]? = some (.rol (ns.map .int) o)
  nN : σ[1]? = some (.list (arr m pl.num))
  pP : σ[2]? = some (.list (arr m fun i => (pl.pa i : Int)))
  wW : σ[3]? = some (.list (arr m pl.wt))
  hW : σ[4]? = some (.list (arr m pl.wh))
  aW : σ[6]? = some (.list (arr m pl.wa))
  sS : σ[7]? = some (.list (arr m pl.sk))
  hH : σ[9]? = some (.list ((List.range m).map fun i => .obj (hA i)))
  hR : ∀ i, i < m → σ[hA i]? = some (natsV (pl.hs i))
  h8 : ∀ i, i < m → (hA i = 8 ∨ 12 ≤ hA i) ∧ hA i < b
  hi : ∀ i j, i < m → j < m → i ≠ j → hA i ≠ hA j
  b12 : 12 ≤ b
theorem Pk.keep {ns : List Int} {o : Obj} {m : Nat} {pl : Pl} {hA : Nat → Nat} {b : Nat} {σ τ : Store} {D : Nat → Prop} (h : Pk ns o m pl hA b σ) (hk : Keep D σ τ) (hd : ∀ a, D a → b ≤ a) : Pk ns o m pl hA b τ := by
  have hb := h.b12
  have g : ∀ {a : Nat} {x : AO}, a < b → σ[a]? = some x → τ[a]? = some x := fun ha e => hk _ _ (fun q => by have := hd _ q; omega) e
  exact ⟨g (by omega) h.sc, g (by omega) h.nN, g (by omega) h.pP, g (by omega) h.wW, g (by omega) h.hW, g (by omega) h.aW, g (by omega) h.sS, g (by omega) h.hH, fun i hi => g (h.h8 i hi).2 (h.hR i hi), h.h8, h.hi, hb⟩
def endOf : Nat → List Nat → Nat
  | p, [] => p
  | _, j :: js => endOf j js
theorem endOf_append : ∀ {l : List Nat} {p x : Nat}, endOf p (l ++ [x]) = x
  | [], _, _ => rfl
  | _ :: l, _, _ => endOf_append (l := l)
theorem snoc (l : List Nat) : l = [] ∨ ∃ a b, l = a ++ [b] := by
  rcases List.eq_nil_or_concat l with h | ⟨a, b, h⟩
  · exact .inl h
  · exact .inr ⟨a, b, by rw [h, List.concat_eq_append]⟩
section
variable {m : Nat} {pl : Pl} {S B : Nat → Prop} {c : Nat → Int}
theorem Ch.end_ {p f : Nat} {js : List Nat} (h : Ch m pl S B c p js f) : endOf p js = f := by
  induction h with
  | nil => rfl
  | cons _ _ _ _ _ _ _ ih => exact ih
theorem Ch.pre {p f : Nat} {js : List Nat} (h : Ch m pl S B c p js f) : ∀ {pre : List Nat} {x : Nat} {suf : List Nat}, js = pre ++ x :: suf → pl.pa x = endOf p pre := by
  induction h with
  | nil => intro pre x suf e; cases pre <;> cases e
  | cons h0 hj hp hb hS hu h ih =>
    intro pre x suf e
    cases pre with
    | nil => cases e; exact hp
    | cons y pre =>
      cases e
      exact ih rfl
end
theorem Keep.of_ext {D : Nat → Prop} {σ τ : Store} (x : Ext σ τ) : Keep D σ τ := fun a o _ e => x a o e
end Mini

end

section
set_option autoImplicit false
namespace Mini
open PySem
theorem Pk.setA {ns : List Int} {o : Obj} {m node : Nat} {pl : Pl} {hA : Nat → Nat} {v : Int} {σ : Store} (h : Pk ns o m pl hA σ.length σ) : Pk ns o m { pl with wa := upd pl.wa node v } hA (σ.set 6 (.list (arr m (upd pl.wa node v)))).length (σ.set 6 (.list (arr m (upd pl.wa node v)))) := by
  obtain ⟨f0, f1, f2, f3, f4, f6, f7, f9, fR, f8, fi, fb⟩ := h
  exact ⟨get_set_ne (by decide) f0, get_set_ne (by decide) f1, get_set_ne (by decide) f2, get_set_ne (by decide) f3, get_set_ne (by decide) f4, get_set_eq f6, get_set_ne (by decide) f7, get_set_ne (by decide) f9, fun i hi => get_set_ne (by have := f8 i hi; omega) (fR i hi), by rw [List.length_set]; exact f8, fi, by rw [List.length_set]; exact fb⟩
theorem Pk.setS {ns : List Int} {o : Obj} {m node : Nat} {pl : Pl} {hA : Nat → Nat} {v : Int} {σ : Store} (h : Pk ns o m pl hA σ.length σ) : Pk ns o m { pl with sk := upd pl.sk node v } hA (σ.set 7 (.list (arr m (upd pl.sk node v)))).length (σ.set 7 (.list (arr m (upd pl.sk node v)))) := by
  obtain ⟨f0, f1, f2, f3, f4, f6, f7, f9, fR, f8, fi, fb⟩ := h
  exact ⟨get_set_ne (by decide) f0, get_set_ne (by decide) f1, get_set_ne (by decide) f2, get_set_ne (by decide) f3, get_set_ne (by decide) f4, get_set_ne (by decide) f6, get_set_eq f7, get_set_ne (by decide) f9, fun i hi => get_set_ne (by have := f8 i hi; omega) (fR i hi), by rw [List.length_set]; exact f8, fi, by rw [List.length_set]; exact fb⟩
theorem Pk.setR {ns : List Int} {o : Obj} {m node : Nat} {pl : Pl} {hA : Nat → Nat} {σ : Store} (h : Pk ns o m pl hA σ.length σ) (hn : node < m) : Pk ns o m (pl.rev node) hA (σ.set (hA node) (natsV (pl.hs node).reverse)).length (σ.set (hA node) (natsV (pl.hs node).reverse)) := by
  obtain ⟨f0, f1, f2, f3, f4, f6, f7, f9, fR, f8, fi, fb⟩ := h
  have h8 := f8 node hn
  refine ⟨get_set_ne (by omega) f0, get_set_ne (by omega) f1, get_set_ne (by omega) f2, get_set_ne (by omega) f3, get_set_ne (by omega) f4, get_set_ne (by omega) f6, get_set_ne (by omega) f7, get_set_ne (by omega) f9, fun i hi => ?_, by rw [List.length_set]; exact f8, fi, by rw [List.length_set]; exact fb⟩
  show _ = some (natsV (upd pl.hs node (pl.hs node).reverse i))
  by_cases e : i = node
  · subst e; rw [upd_eq]; exact get_set_eq (fR i hi)
  · rw [upd_ne e]; exact get_set_ne (fi node i hn hi (Ne.symm e)) (fR i hi)
theorem map_eraseIdx {α β : Type} (f : α → β) : ∀ (l : List α) (i : Nat), (l.map f).eraseIdx i = (l.eraseIdx i).map f
  | [], _ => rfl
  | _ :: _, 0 => rfl
  | x :: l, i + 1 => by
    show f x :: (l.map f).eraseIdx i = _
    rw [map_eraseIdx f l i]; rfl
theorem perm_eraseIdx {α : Type} {x : α} : ∀ {l : List α} {i : Nat}, l[i]? = some x → l.Perm (x :: l.eraseIdx i)
  | [], _, h => by cases h
  | y :: l, 0, h => by cases h; exact List.Perm.refl _
  | y :: l, i + 1, h => by
    have := perm_eraseIdx (l := l) (i := i) (x := x) h
    exact (List.Perm.cons y this).trans (List.Perm.swap x y _)
/-- a loop over two items -/
theorem s_loop2 {ρ : Loc} {σ : Store} {K : KS} {it : It} {v0 v1 : AV} {asg : AV → Loc → Store → RE Loc} {b : Loc → Store → RS} {w : Nat} (hW : 3 ≤ w) (e : nextIt it 0 σ = .item v0 σ)
    (h : W (asg v0 ρ σ) fun ρ σ => WS (b ρ σ) { nxt := fun ρ σ => nextIt it 1 σ = .item v1 σ ∧ W (asg v1 ρ σ) fun ρ σ => WS (b ρ σ) { nxt := fun ρ σ => nextIt it 2 σ = .stop ∧ K.nxt ρ σ, cont := fun _ _ => False, brk := fun _ _ => False, ret := K.ret }, cont := fun _ _ => False, brk := fun _ _ => False, ret := K.ret }) : WS (loopF (nextIt it) asg b w 0 ρ σ) K := by
  obtain ⟨w, rfl⟩ : ∃ k, w = k + 3 := ⟨w - 3, by omega⟩
  rw [loopF, e]
  dsimp only
  refine WS.then' (W.mono h fun ρ σ h => ?_)
  cases q : b ρ σ with
  | nxt ρ' σ' =>
    rw [q] at h
    obtain ⟨h1, h2⟩ := h
    dsimp only
    rw [loopF, h1]
    dsimp only
    refine WS.then' (W.mono h2 fun ρ σ h => ?_)
    cases q2 : b ρ σ with
    | nxt ρ' σ' =>
      rw [q2] at h
      obtain ⟨h1, h2⟩ := h
      dsimp only
      rw [loopF, h1]
      exact h2
    | ret v ρ' σ' => rw [q2] at h; exact h
    | _ => rw [q2] at h; exact h.elim
  | ret v ρ' σ' => rw [q] at h; exact h
  | _ => rw [q] at h; exact h.elim
end Mini

end

section
open PySem PySem.W PyProof.Rows
set_option Elab.async false
set_option maxRecDepth 100000
set_option maxHeartbeats 8000000
set_option pp.deepTerms false
set_option pp.deepTerms.threshold 6
set_option pp.maxSteps 700
set_option pp.proofs false
namespace Mine
open_top hd03 for PySem.Challenge.rw_vp0039_03
end Mine

end

section
open PySem PySem.W PyProof.Rows
set_option Elab.async false
set_option maxRecDepth 100000
set_option maxHeartbeats 8000000
set_option pp.deepTerms false
set_option pp.deepTerms.threshold 6
set_option pp.maxSteps 700
set_option pp.proofs false
namespace Mine
def names03 : List Str := (["stream_id", "weight", "children", "parent", "child_queue", "active", "last_weight", "_deficit", "_weight", "_root_stream", "_streams", "_maximum_streams",
  "add_child", "add_child_exclusive", "remove_child", "schedule", "__eq__", "__ne__", "__lt__", "__le__", "__gt__", "__ge__", "__repr__", "_get_or_insert_parent", "_exclusive_insert", "insert_stream", "reprioritize", "remove_stream", "block", "unblock", "__iter__", "__next__", "next"] : List String).map Str.ofString
def Pure03 : Prop := ∀ (P : Params) (ns : List Int) (o : Obj), ns.length ≤ 63 → ∃ σ', Mini.runF (Mini.prgIn (hd03.heap_39 P) names03) 41 (Mini.lawIn (hd03.heap_39 P) "law") [.obj 0] [] [.rol (ns.map .int) o] = .ok (.bool true) σ' ∧ σ'[0]? = some (.rol (ns.map .int) o)
theorem glue03 (hp : Pure03) : PySem.Challenge.rw_vp0039_03.Holds := hd03 (by
  k_fill
  intro w s₀ s₁ mg mb G Y fa o pm cd doc dV kV ho hd hcd hD hmg hg args vals as hpre hlay hrd hwl hlo
  have KX := kIn_of Y
  refine Ground.open G ?_
  intro T B D TE TW
  have hfa := Mini.lawIn_at KX T.g (x := "law") (by rfl) hmg
  clear hmg
  have hseer := T.seer (by rfl)
  wrow_args hpre hlay hrd hwl hlo
  all_goals (
    first | refine callC_kw (enter_call ?_) | refine enter_call ?_ | refine callC_kw (enter_callW ?_) | refine enter_callW ?_ | w_how
    w_top on
    try refine codeAny_mono ?_ (fun _ _ g => GoodW.toG g))
  rw [hfa]
  have hlen := (by assumption : ¬ ((63 : Nat) : Int) < ((_ : List Int).length : Int))
  refine Mini.law_top (names := names03) (n := 40) KX (topRead_of T) (let ⟨mm, h, _⟩ := hseer.mods; ⟨mm, h⟩) (by rfl) (by assumption) (by assumption) (by omega) ⟨rfl, by decide, by decide⟩ (fun o => hp w.params _ o (by omega)) ?_ fun h' tk hk => Mini.goodW_true hk hg (fun _ => rfl) ?_
  · rfl
  · wrow_post)
end Mine

end

section
set_option autoImplicit false
set_option maxRecDepth 100000
set_option maxHeartbeats 2000000
namespace L03
open PySem PySem.W PyProof.Rows Mini Mine
noncomputable abbrev PP (P : Params) : Prg := prgIn (hd03.heap_39 P) names03
noncomputable abbrev XX (P : Params) (n : Nat) : IX := ⟨runF (PP P) n, (PP P).cls, (PP P).W⟩
def sNames : List Str := ["stream_id", "children", "parent", "child_queue", "active", "last_weight", "_deficit", "_weight"]
structure ClsS (ci : ClsI) : Prop where
  init : ci.init = 155
  props : ci.props = [(("weight" : Str), 162, 171)]
  attrs : ∀ x, sNames.contains x = true → ci.attrs.contains x = true
  addc : ci.meths.lookup ("add_child" : Str) = some 179
  sched : ci.meths.lookup ("schedule" : Str) = some 201
  lt : ci.meths.lookup userLt = some 229
theorem cls253 (P : Params) : ∃ ci, (PP P).cls 253 = some ci ∧ ClsS ci := by
  refine ⟨?ci, ?e, ?s⟩
  case e => conv => lhs; reduce
  case s => exact ⟨rfl, rfl, fun x h => by
    have h : x ∈ sNames := List.elem_iff.mp h
    simp only [sNames, List.mem_cons, List.not_mem_nil, or_false] at h
    rcases h with rfl | rfl | rfl | rfl | rfl | rfl | rfl | rfl <;> rfl, rfl, rfl, rfl⟩
def tNames : List Str := ["_root_stream", "_streams", "_maximum_streams"]
structure ClsT (ci : ClsI) : Prop where
  init : ci.init = 272
  props : ci.props = []
  attrs : ∀ x, tNames.contains x = true → ci.attrs.contains x = true
  gip : ci.meths.lookup ("_get_or_insert_parent" : Str) = some 279
  ins : ci.meths.lookup ("insert_stream" : Str) = some 294
  block : ci.meths.lookup ("block" : Str) = some 316
  nxt' : ci.meths.lookup ("__next__" : Str) = some 337
  nxt : ci.meths.lookup ("next" : Str) = some 344
theorem cls347 (P : Params) : ∃ ci, (PP P).cls 347 = some ci ∧ ClsT ci := by
  refine ⟨?ci, ?e, ?s⟩
  case e => conv => lhs; reduce
  case s => exact ⟨rfl, rfl, fun x h => by
    have h : x ∈ tNames := List.elem_iff.mp h
    simp only [tNames, List.mem_cons, List.not_mem_nil, or_false] at h
    rcases h with rfl | rfl | rfl <;> rfl, rfl, rfl, rfl, rfl, rfl⟩
noncomputable def ciS (P : Params) : ClsI := (cls253 P).choose
theorem ciS_e (P : Params) : (PP P).cls 253 = some (ciS P) := (cls253 P).choose_spec.1
theorem ciS_s (P : Params) : ClsS (ciS P) := (cls253 P).choose_spec.2
noncomputable def ciT (P : Params) : ClsI := (cls347 P).choose
theorem ciT_e (P : Params) : (PP P).cls 347 = some (ciT P) := (cls347 P).choose_spec.1
theorem ciT_s (P : Params) : ClsT (ciT P) := (cls347 P).choose_spec.2

section
variable {P : Params} {n : Nat} {σ : Store} {Q : AV → Store → Prop}
theorem S_noprop {x : Str} (h : sNames.contains x = true) : (ciS P).props.lookup x = none := by
  rw [(ciS_s P).props]
  have h : x ∈ sNames := List.elem_iff.mp h
  simp only [sNames, List.mem_cons, List.not_mem_nil, or_false] at h
  rcases h with rfl | rfl | rfl | rfl | rfl | rfl | rfl | rfl <;> rfl
theorem gS {k d : Nat} {x : Str} {fs : List (Str × AV)} {v : AV} (e : σ[k]? = some (.inst 253 d)) (hc : sNames.contains x = true) (e' : σ[d]? = some (.attrs fs)) (hx : fs.lookup x = some v) (hh : handed v = true) (h : Q v σ) : W (getAttrM (XX P n) (.obj k) x σ) Q :=
  g_attr e (ciS_e P) (S_noprop hc) ((ciS_s P).attrs x hc) e' hx hh h
theorem pS {k d : Nat} {x : Str} {fs : List (Str × AV)} {w : AV} {Q : Unit → Store → Prop} (e : σ[k]? = some (.inst 253 d)) (hc : sNames.contains x = true) (e' : σ[d]? = some (.attrs fs)) (hl : fs.length < 900) (h : Q () (σ.set d (.attrs (putAttr x w fs)))) : W (setAttrM (XX P n) (.obj k) x w σ) Q :=
  p_attr e (ciS_e P) (S_noprop hc) ((ciS_s P).attrs x hc) e' hl h
theorem gT {k d : Nat} {x : Str} {fs : List (Str × AV)} {v : AV} (e : σ[k]? = some (.inst 347 d)) (hc : tNames.contains x = true) (e' : σ[d]? = some (.attrs fs)) (hx : fs.lookup x = some v) (hh : handed v = true) (h : Q v σ) : W (getAttrM (XX P n) (.obj k) x σ) Q :=
  g_attr e (ciT_e P) (by rw [(ciT_s P).props]; rfl) ((ciT_s P).attrs x hc) e' hx hh h
theorem pT {k d : Nat} {x : Str} {fs : List (Str × AV)} {w : AV} {Q : Unit → Store → Prop} (e : σ[k]? = some (.inst 347 d)) (hc : tNames.contains x = true) (e' : σ[d]? = some (.attrs fs)) (hl : fs.length < 900) (h : Q () (σ.set d (.attrs (putAttr x w fs)))) : W (setAttrM (XX P n) (.obj k) x w σ) Q :=
  p_attr e (ciT_e P) (by rw [(ciT_s P).props]; rfl) ((ciT_s P).attrs x hc) e' hl h
theorem pLw {k d kk q : Nat} {x : Str} {id w lw df l : Int} {par : AV} {act : Bool} {Q : Unit → Store → Prop} (hx : x = ("last_weight" : Str)) (e : σ[k]? = some (.inst 253 d)) (e' : σ[d]? = some (.attrs (sfs id w kk par q act lw df))) (h : Q () (σ.set d (.attrs (sfs id w kk par q act l df)))) : W (setAttrM (XX P n) (.obj k) x (.int l) σ) Q := by
  subst hx; exact pS e rfl e' (by show 8 < 900; omega) h
theorem pDf {k d kk q : Nat} {x : Str} {id w lw df l : Int} {par : AV} {act : Bool} {Q : Unit → Store → Prop} (hx : x = ("_deficit" : Str)) (e : σ[k]? = some (.inst 253 d)) (e' : σ[d]? = some (.attrs (sfs id w kk par q act lw df))) (h : Q () (σ.set d (.attrs (sfs id w kk par q act lw l)))) : W (setAttrM (XX P n) (.obj k) x (.int l) σ) Q := by
  subst hx; exact pS e rfl e' (by show 8 < 900; omega) h
theorem pAct {k d kk q : Nat} {x : Str} {id w lw df : Int} {par : AV} {act b : Bool} {Q : Unit → Store → Prop} (hx : x = ("active" : Str)) (e : σ[k]? = some (.inst 253 d)) (e' : σ[d]? = some (.attrs (sfs id w kk par q act lw df))) (h : Q () (σ.set d (.attrs (sfs id w kk par q b lw df)))) : W (setAttrM (XX P n) (.obj k) x (.bool b) σ) Q := by
  subst hx; exact pS e rfl e' (by show 8 < 900; omega) h
theorem pPar {k d kk q : Nat} {x : Str} {id w lw df : Int} {par v : AV} {act : Bool} {Q : Unit → Store → Prop} (hx : x = ("parent" : Str)) (e : σ[k]? = some (.inst 253 d)) (e' : σ[d]? = some (.attrs (sfs id w kk par q act lw df))) (h : Q () (σ.set d (.attrs (sfs id w kk v q act lw df)))) : W (setAttrM (XX P n) (.obj k) x v σ) Q := by
  subst hx; exact pS e rfl e' (by show 8 < 900; omega) h
theorem gW {k d : Nat} {x : Str} (hx : x = ("weight" : Str)) (e : σ[k]? = some (.inst 253 d)) (h : W (runF (PP P) n 162 [.obj k] [] σ) fun r σ => handed r = true ∧ Q r σ) : W (getAttrM (XX P n) (.obj k) x σ) Q :=
  g_prop (g := 162) (s := 171) e (ciS_e P) (by subst hx; rw [(ciS_s P).props]; rfl) h
theorem pW {k d : Nat} {x : Str} {w : AV} {Q : Unit → Store → Prop} (hx : x = ("weight" : Str)) (e : σ[k]? = some (.inst 253 d)) (h : W (runF (PP P) n 171 [.obj k, w] [] σ) fun _ σ => Q () σ) : W (setAttrM (XX P n) (.obj k) x w σ) Q :=
  p_prop (g := 162) (s := 171) e (ciS_e P) (by subst hx; rw [(ciS_s P).props]; rfl) h
theorem mS {k d : Nat} {x y : Str} {f : Addr} {fs : List (Str × AV)} {R : MV → Prop} (e : σ[k]? = some (.inst 253 d)) (hm : (ciS P).meths.lookup y = some f) (hy : x = y) (e' : σ[d]? = some (.attrs fs)) (hx : fs.lookup x = none)
    (h : R (.fn f)) : ∃ f, findM (XX P n) (.obj k) x σ = some f ∧ R f := m_fn e (ciS_e P) (by subst hy; exact hm) e' hx h
theorem mT {k d : Nat} {x y : Str} {f : Addr} {fs : List (Str × AV)} {R : MV → Prop} (e : σ[k]? = some (.inst 347 d)) (hm : (ciT P).meths.lookup y = some f) (hy : x = y) (e' : σ[d]? = some (.attrs fs)) (hx : fs.lookup x = none)
    (h : R (.fn f)) : ∃ f, findM (XX P n) (.obj k) x σ = some f ∧ R f := m_fn e (ciT_e P) (by subst hy; exact hm) e' hx h
end

end L03

end

section
set_option autoImplicit false
set_option maxRecDepth 100000
set_option maxHeartbeats 4000000
namespace L03
open PySem PySem.W PyProof.Rows Mini Mine
local macro_rules | `(tactic| walk_at "sget") => `(tactic| first
  | assumption
  | with_reducible exact get_new
  | ((with_reducible refine' get_set_eq ?g1); (case g1 => walk_at "sget"))
  | ((with_reducible refine' get_set_ne ?g0 ?g1); (case g0 => walk_at "ne"); (case g1 => walk_at "sget"))
  | ((with_reducible refine' get_app ?g1); (case g1 => walk_at "sget")))
local macro_rules | `(tactic| walk_at "ne") => `(tactic| first
  | assumption
  | exact Ne.symm (by assumption)
  | exact Nat.ne_of_lt (lt_of_get (by assumption))
  | exact Nat.ne_of_gt (lt_of_get (by assumption))
  | exact ne_kind (by assumption) (by assumption) (by rfl)
  | omega)
local macro_rules | `(tactic| walk_at "has") => `(tactic| (repeat (first | assumption | (apply Has.put))))
local macro_rules | `(tactic| walk_at "look") => `(tactic| first | rfl | exact Has.get (by walk_at "has") (by rfl))
local macro_rules | `(tactic| walk_at "hasl") => `(tactic| (repeat (first | (exact Has.nil _) | (refine Has.cons (by walk_at "look") ?_))))
local macro_rules | `(tactic| walk_at "enter") => `(tactic| (refine w_fn0 (fi := ?fi) (binds := ?bb) ?ee ?eb ?ec ?hh; (case ee => (conv => (lhs; reduce))); (case eb => (conv => (lhs; reduce))); (case ec => rfl); dsimp only [Int.reduceOfNat, Int.reduceNegSucc]))
local macro_rules | `(tactic| walk_at "m1") => `(tactic| first
  | with_reducible refine' s_cons ?_
  | with_reducible refine' s_nil ?_
  | with_reducible refine' s_asg ?_
  | with_reducible refine' s_expr ?_
  | with_reducible refine' s_ite ?_
  | with_reducible refine' s_ret ?_
  | with_reducible refine' s_brk ?_
  | with_reducible refine' s_cont ?_
  | with_reducible refine' s_pass ?_
  | with_reducible refine' s_try ?_
  | with_reducible refine' s_asrt ?_
  | with_reducible refine' s_fin ?_
  | with_reducible refine' s_augS ?_
  | with_reducible refine' s_for ?_
  | ((with_reducible refine' s_augL ?a1 ?_); (case a1 => walk_at "look"))
  | with_reducible refine' w_cst ?_
  | ((with_reducible refine' w_loc ?a1 ?_); (case a1 => walk_at "look"))
  | ((with_reducible refine' w_cel ?a1 ?_); (case a1 => exact cel_get rfl (by walk_at "sget")))
  | with_reducible refine' w_truth ?_
  | with_reducible refine' w_bin ?_
  | with_reducible refine' w_not ?_
  | with_reducible refine' w_neg ?_
  | with_reducible refine' w_cmp ?_
  | with_reducible refine' w_cmp1 ?_
  | with_reducible refine' w_cmp2 ?_
  | with_reducible refine' w_attr ?_
  | with_reducible refine' w_sub ?_
  | with_reducible refine' w_slc ?_
  | with_reducible refine' w_list ?_
  | with_reducible refine' w_tup ?_
  | with_reducible refine' w_call0 ?_
  | with_reducible refine' w_meth0 ?_
  | with_reducible refine' w_call ?_
  | with_reducible refine' w_meth ?_
  | with_reducible refine' w_nil ?_
  | with_reducible refine' w_cons ?_
  | with_reducible refine' w_bop ?_
  | with_reducible refine' w_b1 ?_
  | with_reducible refine' w_and ?_
  | with_reducible refine' w_or ?_
  | with_reducible refine' w_dict0 ?_
  | with_reducible refine' w_dict1 ?_
  | with_reducible refine' i_obj ?_
  | with_reducible refine' i_range ?_
  | with_reducible refine' i_zip ?_
  | ((with_reducible refine' ex_lst ?a1 ?_); (case a1 => walk_at "sget"))
  | with_reducible refine' w_ifs0 ?_
  | with_reducible refine' w_ifs1 ?_
  | with_reducible refine' a_loc ?_
  | ((with_reducible refine' a_cel ?_); refine' cel_set rfl ?a1 ?_; (case a1 => walk_at "sget"))
  | with_reducible refine' a_attr ?_
  | with_reducible refine' a_sub ?_
  | ((with_reducible refine' a_tup ?a1 ?a2 ?_); (case a1 => exact u_tup (by walk_at "sget")); (case a2 => rfl))
  | with_reducible refine' a_nil ?_
  | with_reducible refine' a_cons ?_
  | with_reducible refine' b_add ?_
  | with_reducible refine' b_sub ?_
  | ((with_reducible refine' b_div ?a1 ?_); (case a1 => (constructor <;> omega)))
  | ((with_reducible refine' b_mod ?a1 ?_); (case a1 => omega))
  | ((with_reducible refine' b_mul ?a1 ?a2 ?_); (case a1 => (constructor <;> omega)); (case a2 => (constructor <;> omega)))
  | with_reducible refine' and_rfl' ?_
  | with_reducible refine' hand_int ?_
  | with_reducible refine' lt_lim2 ?_
  | with_reducible refine' ex_int ?_
  | ((with_reducible refine' t_list2 ?a1 ?_); (case a1 => walk_at "sget"))
  | ((with_reducible refine' t_rol2 ?a1 ?_); (case a1 => walk_at "sget"))
  | ((with_reducible refine' ex_r1 ?a1 ?_); (case a1 => (constructor <;> omega)))
  | ((with_reducible refine' ex_r2 ?a1 ?a2 ?_); (case a1 => (constructor <;> omega)); (case a2 => (constructor <;> omega)))
  | with_reducible refine' w_comp ?_
  | with_reducible refine' pl_sub ?_
  | with_reducible refine' pl_add ?_
  | with_reducible refine' c_lt ?_
  | with_reducible refine' c_le ?_
  | with_reducible refine' c_gt ?_
  | with_reducible refine' c_ge ?_
  | with_reducible refine' c_eq ?_
  | with_reducible refine' c_ne ?_
  | ((with_reducible refine' c_indN ?a1 ?a2 ?_); (case a1 => walk_at "sget"); (case a2 => assumption))
  | ((with_reducible refine' i_dict ?a1 ?a2 ?_); (case a1 => walk_at "sget"); (case a2 => assumption))
  | with_reducible refine' c_isn ?_
  | with_reducible refine' c_isi ?_
  | with_reducible refine' t_bool ?_
  | with_reducible refine' t_none ?_
  | with_reducible refine' t_int ?_
  | with_reducible refine' ite_t ?_
  | with_reducible refine' ite_f ?_
  | with_reducible refine' ite_nt ?_
  | with_reducible refine' ite_nf ?_
  | with_reducible refine' ite_dec (fun _ => ?_) (fun _ => ?_)
  | with_reducible refine' ite_ndec (fun _ => ?_) (fun _ => ?_)
  | with_reducible refine' k_ref ?_
  | with_reducible refine' k_isint ?_
  | with_reducible refine' k_isbool ?_
  | ((with_reducible refine' k_sum ?a1 ?_); (case a1 => walk_at "sget"))
  | ((with_reducible refine' k_len ?a1 ?_); (case a1 => walk_at "sget"))
  | ((with_reducible refine' k_lenR ?a1 ?_); (case a1 => walk_at "sget"))
  | ((with_reducible refine' k_lenD ?a1 ?_); (case a1 => walk_at "sget"))
  | ((with_reducible refine' k_isref ?a1 ?_); (case a1 => walk_at "sget"))
  | ((with_reducible refine' i_list ?a1 ?a2 ?a3 ?_); (case a1 => walk_at "sget"); (case a2 => omega); (case a3 => first | assumption | rfl))
  | ((with_reducible refine' i_rol ?a1 ?a2 ?a3 ?_); (case a1 => walk_at "sget"); (case a2 => omega); (case a3 => first | assumption | rfl))
  | ((with_reducible refine' i_tup ?a1 ?a2 ?a3 ?_); (case a1 => walk_at "sget"); (case a2 => omega); (case a3 => first | assumption | rfl))
  | ((with_reducible refine' m_lst ?a1 ?a2 ?_); (case a1 => walk_at "sget"); (case a2 => rfl))
  | ((with_reducible refine' m_lstC ?a1 ?_); (case a1 => walk_at "sget"))
  | with_reducible refine' m_fnC ?_
  | ((with_reducible refine' lm_append ?a1 ?_ ?_); (case a1 => rfl))
  | ((with_reducible refine' lm_insert ?a1 ?_ ?_ ?_ ?_); (case a1 => rfl))
  | ((with_reducible refine' lm_reverse ?a1 ?_); (case a1 => rfl))
  | ((with_reducible refine' l_alloc ?a1 ?_); (case a1 => (simp only [List.length_cons, List.length_nil, lim]; omega)))
  | walk_at "m2")
local macro_rules | `(tactic| walk_at "m") => `(tactic| repeat' (first | (walk_at "m1") | dsimp only [KS.nxt, KS.ret, KS.brk, KS.cont]))
local macro_rules | `(tactic| walk_at "m2") => `(tactic| first
  | ((with_reducible refine' c_user ?a1 ?a2 ?a3 ?a4 ?_); (case a1 => walk_at "sget"); (case a2 => walk_at "sget"); (case a3 => exact ciS_e _); (case a4 => exact (ciS_s _).lt))
  | ((with_reducible refine' gS ?a1 ?a2 ?a3 ?a4 ?a5 ?_); (case a1 => walk_at "sget"); (case a2 => rfl); (case a3 => walk_at "sget"); (case a4 => rfl); (case a5 => rfl))
  | ((with_reducible refine' gT ?a1 ?a2 ?a3 ?a4 ?a5 ?_); (case a1 => walk_at "sget"); (case a2 => rfl); (case a3 => walk_at "sget"); (case a4 => rfl); (case a5 => rfl))
  | ((with_reducible refine' pLw ?a1 ?a2 ?a3 ?_); (case a1 => rfl); (case a2 => walk_at "sget"); (case a3 => walk_at "sget"))
  | ((with_reducible refine' pDf ?a1 ?a2 ?a3 ?_); (case a1 => rfl); (case a2 => walk_at "sget"); (case a3 => walk_at "sget"))
  | ((with_reducible refine' pAct ?a1 ?a2 ?a3 ?_); (case a1 => rfl); (case a2 => walk_at "sget"); (case a3 => walk_at "sget"))
  | ((with_reducible refine' pPar ?a1 ?a2 ?a3 ?_); (case a1 => rfl); (case a2 => walk_at "sget"); (case a3 => walk_at "sget"))
  | ((with_reducible refine' pS ?a1 ?a2 ?a3 ?a4 ?_); (case a1 => walk_at "sget"); (case a2 => rfl); (case a3 => walk_at "sget"); (case a4 => exact lt_blt rfl))
  | ((with_reducible refine' pT ?a1 ?a2 ?a3 ?a4 ?_); (case a1 => walk_at "sget"); (case a2 => rfl); (case a3 => walk_at "sget"); (case a4 => exact lt_blt rfl))
  | ((with_reducible refine' gW ?a1 ?a2 ?_); (case a1 => rfl); (case a2 => walk_at "sget"))
  | ((with_reducible refine' pW ?a1 ?a2 ?_); (case a1 => rfl); (case a2 => walk_at "sget")))


/-- one stream is less than another -/
theorem c_slt {P : Params} {n : Nat} {σ : Store} {s1 s2 d1 d2 : Nat} {i1 i2 w1 w2 lw1 lw2 df1 df2 : Int} {k1 k2 q1 q2 : Nat} {p1 p2 : AV} {a1 a2 : Bool} {Q : AV → Store → Prop}
    (h1 : σ[s1]? = some (.inst 253 d1)) (h2 : σ[s2]? = some (.inst 253 d2)) (h3 : σ[d1]? = some (.attrs (sfs i1 w1 k1 p1 q1 a1 lw1 df1))) (h4 : σ[d2]? = some (.attrs (sfs i2 w2 k2 p2 q2 a2 lw2 df2)))
    (h : Q (.bool (decide (i1 < i2))) σ) : W (runF (PP P) (n + 1) 229 [.obj s1, .obj s2] [] σ) Q := by
  walk_at "enter"
  walk_at "m"
  exact h
/-- the order of the entries of a queue -/
theorem c_ahead {P : Params} {n : Nat} {σ : Store} {t1 t2 s1 s2 d1 d2 : Nat} {l1 l2 i1 i2 w1 w2 lw1 lw2 df1 df2 : Int} {k1 k2 q1 q2 : Nat} {p1 p2 : AV} {a1 a2 : Bool} {Q : AV → Store → Prop}
    (ht1 : σ[t1]? = some (.tup [.int l1, .obj s1])) (ht2 : σ[t2]? = some (.tup [.int l2, .obj s2])) 
    (h1 : σ[s1]? = some (.inst 253 d1)) (h2 : σ[s2]? = some (.inst 253 d2)) (h3 : σ[d1]? = some (.attrs (sfs i1 w1 k1 p1 q1 a1 lw1 df1))) (h4 : σ[d2]? = some (.attrs (sfs i2 w2 k2 p2 q2 a2 lw2 df2)))
    (h : Q (.bool (decide (l1 < l2 ∨ l1 = l2 ∧ i1 < i2))) σ) : W (runF (PP P) (n + 2) 28 [.obj t1, .obj t2] [] σ) Q := by
  walk_at "enter"
  walk_at "m"
  · exact Qb (by omega) h
  · exact c_slt h1 h2 h3 h4 ⟨_, rfl, Qb (by omega) h⟩
/-- an entry goes to its place -/
theorem c_push {P : Params} {n : Nat} {σ : Store} {I : Nat → Int} {A : Nat → Ad} {T : Nat → Nd} {S : Nat → Prop} {a : Nat} {z : List (Nat × Int × Nat)} {x : Nat × Int × Nat} {Q : AV → Store → Prop}
    (hz : σ[a]? = some (qv z)) (he : ∀ p ∈ z, Ent A S σ p) (hx : Ent A S σ x) (hs : ∀ i, S i → StAt I A T σ i) (hl : z.length < 1000)
    (h : ∀ z' : List (Nat × Int × Nat), z'.map (·.2) = ins I x.2 (z.map (·.2)) → (∀ p ∈ z', p = x ∨ p ∈ z) → Q .none (σ.set a (qv z'))) : W (runF (PP P) (n + 3) 35 [.obj a, .obj x.1] [] σ) Q := by
  obtain ⟨t, l, j⟩ := x
  dsimp only at h ⊢
  unfold qv at hz h
  obtain ⟨hj, ht⟩ := hx
  dsimp only at hj ht
  have fin : ∀ m : Nat, m = posR I (l, j) (z.map (·.2)) (z.map (·.2)).length → Q .none (σ.set a (.list (List.take (m : Int).toNat (z.map fun p => .obj p.1) ++ .obj t :: List.drop (m : Int).toNat (z.map fun p => .obj p.1)))) := by
    intro m hm
    have := h (z.take m ++ (t, l, j) :: z.drop m) (by unfold ins; rw [← hm]; simp) (by
      intro p hp
      rw [List.mem_append, List.mem_cons] at hp
      rcases hp with hp | hp | hp
      · exact .inr (List.mem_of_mem_take hp)
      · exact .inl hp
      · exact .inr (List.mem_of_mem_drop hp))
    simpa using this
  walk_at "enter"
  walk_at "m"
  refine s_while (fun m ρ τ => τ = σ ∧ m ≤ z.length ∧ Has ρ [("queue", .obj a), ("item", .obj t), ("place", .int m)] ∧ posR I (l, j) (z.map (·.2)) m = posR I (l, j) (z.map (·.2)) (z.map (·.2)).length) ?_ (n := z.length) ?_ ?_
  · rintro m ρ τ ⟨rfl, hm, L, hp⟩
    walk_at "m"
    rename_i hm0
    obtain ⟨m, rfl⟩ : ∃ k, m = k + 1 := ⟨m - 1, by omega⟩
    have hlt : m < z.length := by omega
    obtain ⟨⟨t', l', j'⟩, hzm⟩ : ∃ p, z[m] = p := ⟨_, rfl⟩
    have hmem : (t', l', j') ∈ z := by rw [← hzm]; exact List.getElem_mem hlt
    obtain ⟨hj', ht'⟩ := he _ hmem
    dsimp only at hj' ht'
    refine i_list (v := .obj t') (by assumption) (by omega) ?_ ?_
    · rw [show ((((m + 1 : Nat) : Int) - 1)).toNat = m by omega, List.getElem?_map, List.getElem?_eq_getElem hlt, hzm]; rfl
    walk_at "m"
    obtain ⟨h1, h2⟩ := hs j hj
    obtain ⟨h3, h4⟩ := hs j' hj'
    refine c_ahead ht ht' h1 h3 h2 h4 ?_
    have hq : (z.map (·.2))[m]? = some (l', j') := by rw [List.getElem?_map, List.getElem?_eq_getElem hlt, hzm]; rfl
    have hstep : posR I (l, j) (z.map (·.2)) (m + 1) = if aheadB I (l, j) (l', j') then posR I (l, j) (z.map (·.2)) m else m + 1 := by
      rw [posR, hq]
    walk_at "m"
    · rename_i hc
      refine ⟨m, by omega, rfl, by omega, ?_, ?_⟩
      · rw [show (((m + 1 : Nat) : Int) - 1) = (m : Int) by omega]
        walk_at "hasl"
      · rw [← hp, hstep, if_pos (show aheadB I (l, j) (l', j') = true from decide_eq_true hc)]
    · omega
    · rw [List.length_map]; omega
    · rw [List.length_map]; unfold lim; omega
    · rename_i hc
      rw [hstep, if_neg (by unfold aheadB; rw [decide_eq_false hc]; decide)] at hp
      exact fin (m + 1) hp
    · exfalso; omega
    · omega
    · rw [List.length_map]; omega
    · rw [List.length_map]; unfold lim; omega
    · obtain rfl : m = 0 := by omega
      exact fin 0 hp
  · show z.length < 50000
    omega
  · refine ⟨rfl, Nat.le_refl _, ?_, by rw [List.length_map]⟩
    rw [show (List.map (fun p => AV.obj p.fst) z).length = z.length by rw [List.length_map]]
    walk_at "hasl"
/-- the foremost entry goes -/
theorem c_pop {P : Params} {n : Nat} {σ : Store} {a : Nat} {z : List (Nat × Int × Nat)} {x : Nat × Int × Nat} {Q : AV → Store → Prop}
    (hz : σ[a]? = some (qv (x :: z))) (h : Q (.obj x.1) (σ.set a (qv z))) : W (runF (PP P) (n + 1) 42 [.obj a] [] σ) Q := by
  unfold qv at hz
  walk_at "enter"
  walk_at "m"
  refine lm_pop (v := .obj x.1) rfl (by omega) rfl ?_
  exact h
theorem c_weight {P : Params} {n : Nat} {σ : Store} {s d k q : Nat} {i w lw df : Int} {par : AV} {act : Bool} {Q : AV → Store → Prop}
    (h1 : σ[s]? = some (.inst 253 d)) (h2 : σ[d]? = some (.attrs (sfs i w k par q act lw df))) (h : Q (.int w) σ) : W (runF (PP P) (n + 1) 162 [.obj s] [] σ) Q := by
  walk_at "enter"
  walk_at "m"
  exact h
local macro_rules | `(tactic| walk_at "m1") => `(tactic| ((with_reducible refine' c_weight ?a1 ?a2 ?_); (case a1 => walk_at "sget"); (case a2 => walk_at "sget")))
/-- a turn -/
theorem c_sched {P : Params} {I : Nat → Int} {A : Nat → Ad} {S : Nat → Prop} {N : Nat} : ∀ {js : List Nat} {T : Nat → Nd} {p f : Nat} {σ : Store} {n : Nat} {Q : AV → Store → Prop}, Path T p js f → (p :: js).Nodup → (∀ i ∈ p :: js, S i) → TreeOk I A T S N σ → (T p).act = false →
    (∀ σ', TreeOk I A (eff I T p js) S N σ' → Keep (dom A S) σ σ' → Q (.int (I f)) σ') → W (runF (PP P) (n + js.length + 3) 201 [.obj (A p).s] [] σ) Q
  | [], T, p, f, σ, n, Q, hp, hn, hN, ok, ha, h => by cases hp
  | j :: js, T, p, f, σ, n, Q, hp, hn, hN, ok, ha, h => by
    have hpN : S p := hN p List.mem_cons_self
    have hjN : S j := hN j (List.mem_cons_of_mem _ List.mem_cons_self)
    have hpj : p ≠ j := fun e => (List.nodup_cons.mp hn).1 (e ▸ List.mem_cons_self)
    obtain ⟨e1, e2⟩ := ok.st p hpN
    obtain ⟨e3, e4⟩ := ok.st j hjN
    obtain ⟨z, ez, hz, hent⟩ := ok.qs p hpN
    rw [ha] at e2
    have hq : ∃ l r, (T p).q = (l, j) :: r := by
      cases hp with
      | leaf hq => exact ⟨_, _, hq⟩
      | node hq => exact ⟨_, _, hq⟩
    obtain ⟨l, r, hq⟩ := hq
    obtain ⟨⟨t, l', j'⟩, z, rfl⟩ : ∃ x z', z = x :: z' := by
      cases z with
      | nil => rw [hq] at hz; cases hz
      | cons x z' => exact ⟨x, z', rfl⟩
    rw [hq] at hz
    simp only [List.map_cons, List.cons.injEq, Prod.mk.injEq] at hz
    obtain ⟨⟨hl', hj'⟩, hzr⟩ := hz
    subst l' j'
    have het := (hent _ List.mem_cons_self).2
    dsimp only at het
    have hdd := ok.dd p j hpN hjN hpj
    show W (runF (PP P) (n + js.length + 3 + 1) 201 [.obj (A p).s] [] σ) Q
    walk_at "enter"
    walk_at "m"
    refine ⟨rfl, ?_⟩
    walk_at "m"
    refine s_while1M (fun ρ τ => TreeOk I A (eff I (pop1 T p) j js) S N τ ∧ Keep (dom A S) σ τ ∧ τ[σ.length]? = some (.list [.obj t]) ∧ Has ρ [("self", .obj (A p).s), ("next_stream", .int (I f)), ("popped_streams", .obj σ.length)]) (by show 2 ≤ 50000; omega) ?_ ?_
    · walk_at "m"
      refine c_pop (x := (t, l, j)) (z := z) (by walk_at "sget") ?_
      dsimp only
      walk_at "m"
      · show 0 < 100000; omega
      · have okS : TreeOk I A (pop1 T p) S N ((List.set (σ ++ [.list []]) (A p).q (qv z)).set σ.length (.list ([] ++ [.obj t]))) := by
          have o1 := (ok.app [.list []]).set_q hpN (z := z) (fun p hp => ⟨(hent p (List.mem_cons_of_mem _ hp)).1, get_app (hent p (List.mem_cons_of_mem _ hp)).2⟩) (by
            have := ok.ql p hpN
            rw [hq, ← hzr, List.length_cons, List.length_map] at this
            omega)
          have o2 := o1.set_list (a := σ.length) (o := .list ([] ++ [.obj t])) (xs := []) (by walk_at "sget") (fun hd => Nat.lt_irrefl _ (ok.dom_lt hd))
          unfold pop1
          rw [hq, List.tail_cons, ← hzr]; exact o2
        have kpS : Keep (dom A S) σ ((List.set (σ ++ [.list []]) (A p).q (qv z)).set σ.length (.list ([] ++ [.obj t]))) := by
          intro a o hd e
          exact get_set_ne (Nat.ne_of_gt (lt_of_get e)) (get_set_ne (fun q => hd ⟨p, hpN, .inr (.inl q.symm)⟩) (get_app e))
        have eS : ((List.set (σ ++ [.list []]) (A p).q (qv z)).set σ.length (.list ([] ++ [.obj t])))[σ.length]? = some (.list [.obj t]) :=
          get_set_eq (o := .list []) (by walk_at "sget")
        cases hp with
        | leaf hq' ha' =>
          rw [if_pos ha']
          walk_at "m"
          refine ⟨okS, kpS, eS, ?_⟩
          walk_at "hasl"
        | node hq' ha' hp' =>
          rw [ha']
          walk_at "m"
          obtain ⟨es1, es2⟩ := okS.st j hjN
          refine mS es1 (ciS_s P).sched rfl es2 rfl ?_
          walk_at "m"
          obtain ⟨hn1, hn2⟩ := List.nodup_cons.mp hn
          refine c_sched (hp'.upd hn1) hn2 (fun i hi => hN i (List.mem_cons_of_mem _ hi)) okS (by rw [upd_ne (Ne.symm hpj)]; exact ha') fun τ ok' kp' => ?_
          walk_at "m"
          refine ⟨ok', kpS.trans kp', kp' _ _ (fun hd => Nat.lt_irrefl _ (ok.dom_lt hd)) eS, ?_⟩
          walk_at "hasl"
    · rintro ρ τ ⟨ok1, kp, e5, L⟩
      obtain ⟨f1, f2⟩ := ok1.st p hpN
      obtain ⟨f3, f4⟩ := ok1.st j hjN
      obtain ⟨z', ez', hz', hent'⟩ := ok1.qs p hpN
      have hw := ok1.wt j hjN
      have hwp := ok1.wt p hpN
      have het' := ok.keepT kp ⟨by simp [kind], by simp [kind]⟩ het
      have hql := ok1.ql p hpN
      have hE : eff I (pop1 T p) j js = upd (eff I T j js) p { T p with q := r } := by
        unfold pop1; rw [eff_upd (List.nodup_cons.mp hn).1, hq]; rfl
      have hqn : (A p).q ≠ σ.length := Nat.ne_of_lt (lt_of_get ez)
      clear e1 e2 e3 e4 ez hent het
      generalize hT1 : eff I (pop1 T p) j js = T1 at *
      walk_at "m"
      refine s_loop1 (v := .obj t) (by show 2 ≤ 50000; omega) (nx_lst e5 rfl) ?_
      walk_at "m"
      have ok2 := ((ok1.set_d hpN (act := (T1 p).act) (lw := l) (df := (T1 p).df) hwp (ok1.pr p hpN)).set_d hjN (act := (T1 j).act) (lw := (T1 j).lw) (df := (256 + (T1 j).df) % (T1 j).w) hw (ok1.pr j hjN)).app [.tup [.int (l + (256 + (T1 j).df) / (T1 j).w), .obj (A j).s]]
      rw [upd_ne (Ne.symm hpj)] at ok2
      obtain ⟨z2, ez2, hz2, hent2⟩ := ok2.qs p hpN
      have hnb := ok2.nb
      have : z2.length ≤ N := by
        have := ok2.ql p hpN
        rw [← hz2, List.length_map] at this; exact this
      refine c_push (x := (_, l + (256 + (T1 j).df) / (T1 j).w, j)) (z := z2) ez2 hent2 ⟨hjN, ?_⟩ ok2.st (by omega) fun z3 hz3 hm3 => ?_
      · walk_at "sget"
      walk_at "m"
      have hz3l : z3.length ≤ N := by
        have e1 := congrArg List.length hz3
        rw [List.length_map, ins_length, List.length_map] at e1
        have e2 := congrArg List.length hz2
        rw [List.length_map, upd_ne hpj, upd_eq, hE, upd_eq] at e2
        have e3 := ok.ql p hpN
        rw [hq, List.length_cons] at e3
        dsimp only at e2
        omega
      have ok3 := ok2.set_q hpN (z := z3) (fun p' hp' => by
        rcases hm3 p' hp' with e | e
        · rw [e]; exact ⟨hjN, by walk_at "sget"⟩
        · exact hent2 p' e) hz3l
      refine ⟨nx_lstE (xs := [.obj t]) (by walk_at "sget") (Nat.le_refl _), ?_⟩
      walk_at "m"
      refine h _ ?_ ?_
      · refine ok3.eqT ?_
        funext i
        rw [hz3, hz2, upd_ne hpj, upd_eq, eff, serve, hE]
        unfold upd
        by_cases hi : i = p
        · subst hi
          simp only [if_true, hq]
          rw [eff_out (List.nodup_cons.mp hn).1]
          simp [hq, Ne.symm hpj]
        · by_cases hj : i = j
          · subst hj; simp [hi]
          · simp [hi, hj]
      · exact (((kp.set ⟨p, hpN, .inl rfl⟩).set ⟨j, hjN, .inl rfl⟩).app).set ⟨p, hpN, .inr (.inl rfl)⟩

theorem c_setw {P : Params} {n : Nat} {σ : Store} {s d : Nat} {w : Int} {fs : List (Str × AV)} {Q : AV → Store → Prop} (h1 : σ[s]? = some (.inst 253 d)) (h2 : σ[d]? = some (.attrs fs)) (hl : fs.length < 900) (hw : 1 ≤ w ∧ w ≤ 256)
    (h : Q .none (σ.set d (.attrs (putAttr "_weight" (.int w) fs)))) : W (runF (PP P) (n + 1) 171 [.obj s, .int w] [] σ) Q := by
  walk_at "enter"
  walk_at "m"
  · exfalso; omega
  · refine pS h1 rfl h2 hl ?_
    walk_at "m"
    exact h
  all_goals (exfalso; omega)
local macro_rules | `(tactic| walk_at "m1") => `(tactic| ((with_reducible refine' c_setw ?a1 ?a2 ?a3 ?a4 ?_); (case a1 => walk_at "sget"); (case a2 => walk_at "sget"); (case a3 => exact lt_blt rfl); (case a4 => first | assumption | decide)))
theorem c_initP {P : Params} {n : Nat} {σ : Store} {s d : Nat} {id w : Int} {Q : AV → Store → Prop} (h1 : σ[s]? = some (.inst 253 d)) (h2 : σ[d]? = some (.attrs [])) (hw : 1 ≤ w ∧ w ≤ 256)
    (h : ∀ σ' : Store, σ'[d]? = some (.attrs (sfs id w σ.length .none (σ.length + 1) true 0 0)) → σ'[σ.length]? = some (.list []) → σ'[σ.length + 1]? = some (.list []) → σ'.length = σ.length + 2 → (∀ (a : Nat) (o : AO), a ≠ d → σ[a]? = some o → σ'[a]? = some o) → Q .none σ') : W (runF (PP P) (n + 2) 155 [.obj s, .int id, .int w] [] σ) Q := by
  have hd := lt_of_get h2
  have hd1 : ¬ σ.length = d := by omega
  have hd2 : ¬ d = σ.length := by omega
  have hd3 : ¬ d = σ.length + 1 := by omega
  walk_at "enter"
  walk_at "m"
  simp only [List.length_set, List.length_append, List.length_cons, List.length_nil, Nat.zero_add]
  refine h _ ?_ ?_ ?_ ?_ ?_
  · refine' Eq.trans (get_set_eq ?g) rfl
    case g => walk_at "sget"
  · simp [List.getElem?_append, hd2]
  · simp [List.getElem?_set, hd3]
  · simp
  · intro a o ha e
    repeat (first | exact e | refine get_set_ne (Ne.symm ha) ?_ | refine get_app ?_)
theorem c_initK {P : Params} {n : Nat} {σ : Store} {s d : Nat} {id w : Int} {Q : AV → Store → Prop} (h1 : σ[s]? = some (.inst 253 d)) (h2 : σ[d]? = some (.attrs [])) (hw : 1 ≤ w ∧ w ≤ 256)
    (h : ∀ σ' : Store, σ'[d]? = some (.attrs (sfs id w σ.length .none (σ.length + 1) true 0 0)) → σ'[σ.length]? = some (.list []) → σ'[σ.length + 1]? = some (.list []) → σ'.length = σ.length + 2 → (∀ (a : Nat) (o : AO), a ≠ d → σ[a]? = some o → σ'[a]? = some o) → Q .none σ') : W (runF (PP P) (n + 2) 155 [.obj s] [("stream_id", .int id), ("weight", .int w)] σ) Q := by
  have hd := lt_of_get h2
  have hd1 : ¬ σ.length = d := by omega
  have hd2 : ¬ d = σ.length := by omega
  have hd3 : ¬ d = σ.length + 1 := by omega
  walk_at "enter"
  walk_at "m"
  simp only [List.length_set, List.length_append, List.length_cons, List.length_nil, Nat.zero_add]
  refine h _ ?_ ?_ ?_ ?_ ?_
  · refine' Eq.trans (get_set_eq ?g) rfl
    case g => walk_at "sget"
  · simp [List.getElem?_append, hd2]
  · simp [List.getElem?_set, hd3]
  · simp
  · intro a o ha e
    repeat (first | exact e | refine get_set_ne (Ne.symm ha) ?_ | refine get_app ?_)
/-- an heir is laid beneath a node -/
theorem c_addc {P : Params} {I : Nat → Int} {A : Nat → Ad} {T : Nat → Nd} {S : Nat → Prop} {N p c : Nat} {σ : Store} {n : Nat} {Q : AV → Store → Prop} (ok : TreeOk I A T S N σ) (hp : S p) (hc : S c) (hpc : p ≠ c) (hN : N + 1 ≤ 400)
    (h : ∀ σ', TreeOk I A (upd (upd T c { T c with par := some p }) p { T p with q := ins I ((T p).lw, c) (T p).q, ch := (T p).ch ++ [c] }) S (N + 1) σ' → Keep (dom A S) σ σ' → Q .none σ') : W (runF (PP P) (n + 4) 179 [.obj (A p).s, .obj (A c).s] [] σ) Q := by
  have hql := ok.ql p hp
  have hk := ok.kl p hp
  have ok := ok.more (Nat.le_succ N) hN
  obtain ⟨e1, e2⟩ := ok.st p hp
  obtain ⟨e3, e4⟩ := ok.st c hc
  obtain ⟨z, ez, hz, hent⟩ := ok.qs p hp
  have ek := ok.ks p hp
  have hdd := ok.dd p c hp hc hpc
  have hkq := ok.kq p p hp hp
  have hnb := ok.nb
  unfold chV at ek
  walk_at "enter"
  walk_at "m"
  · rw [List.length_map]; show _ < 100000; omega
  have hmap : chV A ((T p).ch ++ [c]) = .list ((T p).ch.map (fun j => .obj (A j).s) ++ [.obj (A c).s]) := by simp [chV]
  have okp := ok.set_d hc (w := (T c).w) (act := (T c).act) (lw := (T c).lw) (df := (T c).df) (par := some p) (ok.wt c hc) (fun x hx => by cases hx; exact hp)
  have hTp : upd T c { T c with par := some p } p = T p := upd_ne hpc
  have ok1 := (okp.set_k hp (c := (T p).ch ++ [c]) (fun j hj => by
    rcases List.mem_append.mp hj with hj | hj
    · exact ok.kc p hp j hj
    · rw [List.mem_singleton.mp hj]; exact hc) (by simp; omega)).app [.tup [.int (T p).lw, .obj (A c).s]]
  rw [hmap, hTp, show parV A (some p) = .obj (A p).s from rfl] at ok1
  have hzl : z.length ≤ N := by
    have := congrArg List.length hz
    rw [List.length_map] at this; omega
  refine c_push (x := (_, (T p).lw, c)) (z := z) (by walk_at "sget") (fun p' hp' => ?_) ⟨hc, by walk_at "sget"⟩ ok1.st (by omega) fun z3 hz3 hm3 => ?_
  · obtain ⟨h1, h2⟩ := hent p' hp'
    exact ⟨h1, by walk_at "sget"⟩
  walk_at "m"
  have ok3 := ok1.set_q hp (z := z3) (fun p' hp' => by
    rcases hm3 p' hp' with e | e
    · rw [e]; exact ⟨hc, by walk_at "sget"⟩
    · obtain ⟨h1, h2⟩ := hent p' e
      exact ⟨h1, by walk_at "sget"⟩) (by
    have := congrArg List.length hz3
    rw [List.length_map, ins_length, List.length_map] at this
    omega)
  refine h _ ?_ ?_
  · refine ok3.eqT ?_
    rw [hz3, hz, upd_upd, upd_eq]
  · exact ((((Keep.refl _ _).set ⟨c, hc, .inl rfl⟩).set ⟨p, hp, .inr (.inr rfl)⟩).app).set ⟨p, hp, .inr (.inl rfl)⟩
theorem c_streamP {P : Params} {n : Nat} {σ : Store} {id w : Int} {Q : AV → Store → Prop} (hw : 1 ≤ w ∧ w ≤ 256)
    (h : ∀ σ' : Store, σ'[σ.length + 1]? = some (.inst 253 σ.length) → σ'[σ.length]? = some (.attrs (sfs id w (σ.length + 2) .none (σ.length + 3) true 0 0)) → σ'[σ.length + 2]? = some (.list []) → σ'[σ.length + 3]? = some (.list []) → σ'.length = σ.length + 4 → (∀ (a : Nat) (o : AO), σ[a]? = some o → σ'[a]? = some o) → Q (.obj (σ.length + 1)) σ') : W (runF (PP P) (n + 3) 253 [.int id, .int w] [] σ) Q := by
  refine w_new (by rfl) (ciS_e P) ?_
  rw [(ciS_s P).init]
  have g1 : (σ ++ [.attrs [], .inst 253 σ.length])[σ.length + 1]? = some (.inst 253 σ.length) := by simp [List.getElem?_append]
  have g2 : (σ ++ [.attrs [], .inst 253 σ.length])[σ.length]? = some (.attrs []) := by simp
  have gl : (σ ++ [AO.attrs [], AO.inst 253 σ.length]).length = σ.length + 2 := by simp
  refine c_initP g1 g2 hw fun σ' f1 f2 f3 f4 f5 => ⟨rfl, h σ' ?_ ?_ ?_ ?_ ?_ ?_⟩
  · exact f5 _ _ (by omega) g1
  · rw [gl] at f1; exact f1
  · rw [gl] at f2; exact f2
  · rw [gl] at f3; exact f3
  · rw [gl] at f4; exact f4
  · exact fun a o e => f5 a o (Nat.ne_of_lt (lt_of_get e)) (get_app e)
theorem c_streamK {P : Params} {n : Nat} {σ : Store} {id w : Int} {Q : AV → Store → Prop} (hw : 1 ≤ w ∧ w ≤ 256)
    (h : ∀ σ' : Store, σ'[σ.length + 1]? = some (.inst 253 σ.length) → σ'[σ.length]? = some (.attrs (sfs id w (σ.length + 2) .none (σ.length + 3) true 0 0)) → σ'[σ.length + 2]? = some (.list []) → σ'[σ.length + 3]? = some (.list []) → σ'.length = σ.length + 4 → (∀ (a : Nat) (o : AO), σ[a]? = some o → σ'[a]? = some o) → Q (.obj (σ.length + 1)) σ') : W (runF (PP P) (n + 3) 253 [] [("stream_id", .int id), ("weight", .int w)] σ) Q := by
  refine w_new (by rfl) (ciS_e P) ?_
  rw [(ciS_s P).init]
  have g1 : (σ ++ [.attrs [], .inst 253 σ.length])[σ.length + 1]? = some (.inst 253 σ.length) := by simp [List.getElem?_append]
  have g2 : (σ ++ [.attrs [], .inst 253 σ.length])[σ.length]? = some (.attrs []) := by simp
  have gl : (σ ++ [AO.attrs [], AO.inst 253 σ.length]).length = σ.length + 2 := by simp
  refine c_initK g1 g2 hw fun σ' f1 f2 f3 f4 f5 => ⟨rfl, h σ' ?_ ?_ ?_ ?_ ?_ ?_⟩
  · exact f5 _ _ (by omega) g1
  · rw [gl] at f1; exact f1
  · rw [gl] at f2; exact f2
  · rw [gl] at f3; exact f3
  · rw [gl] at f4; exact f4
  · exact fun a o e => f5 a o (Nat.ne_of_lt (lt_of_get e)) (get_app e)
theorem c_gip {P : Params} {n tr td sd r : Nat} {σ : Store} {k : Int} {es : List (Int × AV)} {v : AV} {Q : AV → Store → Prop} (h1 : σ[tr]? = some (.inst 347 td)) (h2 : σ[td]? = some (.attrs [("_root_stream", .obj r), ("_streams", .obj sd), ("_maximum_streams", .int 1000)])) (h3 : σ[sd]? = some (.dict es)) (h4 : es.lookup k = some v)
    (h : Q v σ) : W (runF (PP P) (n + 1) 279 [.obj tr, .int k] [] σ) Q := by
  walk_at "enter"
  walk_at "m"
  exact h

theorem lookup_putKey {k j : Int} {v : AV} : ∀ {es : List (Int × AV)}, (putKey k v es).lookup j = if j = k then some v else es.lookup j
  | [] => by
    show List.lookup j [(k, v)] = _
    rw [List.lookup_cons]
    by_cases h : j = k
    · rw [if_pos h, h, beq_self_eq_true]
    · rw [if_neg h, beq_eq_false_iff_ne.mpr h]
  | p :: r => by
    obtain ⟨p1, p2⟩ := p
    unfold putKey
    by_cases hp : p1 = k
    · rw [if_pos (by rw [hp]; exact beq_self_eq_true k), List.lookup_cons, List.lookup_cons]
      by_cases h : j = k
      · rw [if_pos h, h, hp, beq_self_eq_true]
      · rw [if_neg h, hp, beq_eq_false_iff_ne.mpr h]
    · rw [if_neg (by intro h; exact hp (eq_of_beq h)), List.lookup_cons, List.lookup_cons, lookup_putKey (es := r)]
      by_cases hy : j = p1
      · subst hy; simp only [beq_self_eq_true, if_neg hp]
      · rw [beq_eq_false_iff_ne.mpr hy]
theorem putKey_length {k : Int} {v : AV} : ∀ {es : List (Int × AV)}, (putKey k v es).length ≤ es.length + 1
  | [] => Nat.le_refl _
  | p :: r => by
    unfold putKey
    split
    · simp
    · have := putKey_length (k := k) (v := v) (es := r); simp only [List.length_cons]; omega
theorem c_addc' {P : Params} {I : Nat → Int} {A : Nat → Ad} {T : Nat → Nd} {S : Nat → Prop} {N p c sp sc : Nat} {σ : Store} {n : Nat} {Q : AV → Store → Prop} (ok : TreeOk I A T S N σ) (hp : S p) (hc : S c) (hpc : p ≠ c) (hN : N + 1 ≤ 400) (hsp : (A p).s = sp) (hsc : (A c).s = sc)
    (h : ∀ σ', TreeOk I A (upd (upd T c { T c with par := some p }) p { T p with q := ins I ((T p).lw, c) (T p).q, ch := (T p).ch ++ [c] }) S (N + 1) σ' → Keep (dom A S) σ σ' → Q .none σ') : W (runF (PP P) (n + 4) 179 [.obj sp, .obj sc] [] σ) Q := by
  subst hsp hsc; exact c_addc ok hp hc hpc hN h
/-- a stream comes -/
theorem c_insert {P : Params} {tr td sd : Nat} {I : Nat → Int} {A : Nat → Ad} {T : Nat → Nd} {S : Nat → Prop} {N p c : Nat} {k w : Int} {σ : Store} {n : Nat} {Q : AV → Store → Prop} (h : PTr tr td sd I A T S N σ) (hp : S p) (hcS : ¬ S c) (hk : ∀ i, S i → I i ≠ k) (hIN : I c = k) (hw : 1 ≤ w ∧ w ≤ 256) (hN : N + 1 ≤ 400)
    (hQ : ∀ σ' A', PTr tr td sd I A' (upd (upd T c ⟨w, true, 0, 0, [], [], some p⟩) p { T p with q := ins I ((T p).lw, c) (T p).q, ch := (T p).ch ++ [c] }) (fun i => S i ∨ i = c) (N + 1) σ' → (∀ i, i ≠ c → A' i = A i) → Keep (domT A S sd) σ σ' → (∀ a, dom A' (fun i => S i ∨ i = c) a → dom A S a ∨ σ.length ≤ a) → Q .none σ') : W (runF (PP P) (n + 6) 294 [.obj tr, .int k, .int (I p), .int w] [] σ) Q := by
  obtain ⟨es, e1, e2, e3, e4⟩ := h.od
  have hno := e3 k hk
  have nec : ∀ {i}, S i → i ≠ c := fun hi q => hcS (q ▸ hi)
  have hIp := e2 p hp
  have hpk := hk p hp
  have ho := h.o
  have hoa := h.oa
  generalize hIpg : I p = ip at *
  walk_at "enter"
  walk_at "m"
  · exfalso; omega
  refine c_streamP hw fun τ f1 f2 f3 f4 fl fk => ?_
  have ok1 := h.ok.grow (w := w) hcS fk (Nat.le_refl _) (by omega) (by omega) (by omega : σ.length + 2 ≠ σ.length + 3) f1 (by rw [hIN]; exact f2) f3 f4 hw
  have hpN : p ≠ c := fun q => hcS (q ▸ hp)
  have hAN : (upd A c ⟨σ.length + 1, σ.length, σ.length + 2, σ.length + 3⟩ c).s = σ.length + 1 := by rw [upd_eq]
  have hAp : upd A c ⟨σ.length + 1, σ.length, σ.length + 2, σ.length + 3⟩ p = A p := upd_ne hpN
  have hTp : upd T c ⟨w, true, 0, 0, [], [], none⟩ p = T p := upd_ne hpN
  have hTT : upd (upd T c ⟨w, true, 0, 0, [], [], none⟩) c { upd T c ⟨w, true, 0, 0, [], [], none⟩ c with par := some p } = upd T c ⟨w, true, 0, 0, [], [], some p⟩ := by rw [upd_eq, upd_upd]
  have g1 := fk _ _ ho
  have g2 := fk _ _ hoa
  have g3 := fk _ _ e1
  have hdom : ∀ a, dom (upd A c ⟨σ.length + 1, σ.length, σ.length + 2, σ.length + 3⟩) (fun i => S i ∨ i = c) a → dom A S a ∨ σ.length ≤ a := by
    rintro a ⟨i, hi, q⟩
    rcases hi with hi | rfl
    · rw [upd_ne (nec hi)] at q; exact .inl ⟨i, hi, q⟩
    · rw [upd_eq] at q; dsimp only at q; right; omega
  have old : ∀ {τ' : Store} {a : Nat} {o : AO}, Keep (dom (upd A c ⟨σ.length + 1, σ.length, σ.length + 2, σ.length + 3⟩) (fun i => S i ∨ i = c)) τ τ' → σ[a]? = some o → ¬ dom A S a → τ'[a]? = some o := fun k' e hn => k' _ _ (fun hd => by
    rcases hdom _ hd with q | q
    · exact hn q
    · have := lt_of_get e; omega) (fk _ _ e)
  have tr_out : ¬ dom A S tr := h.tr_out
  have fin : ∀ τ', TreeOk I (upd A c ⟨σ.length + 1, σ.length, σ.length + 2, σ.length + 3⟩) (upd (upd T c ⟨w, true, 0, 0, [], [], some p⟩) p { T p with q := ins I ((T p).lw, c) (T p).q, ch := (T p).ch ++ [c] }) (fun i => S i ∨ i = c) (N + 1) τ' → Keep (dom (upd A c ⟨σ.length + 1, σ.length, σ.length + 2, σ.length + 3⟩) (fun i => S i ∨ i = c)) τ τ' → Q .none (τ'.set sd (.dict (putKey k (.obj (σ.length + 1)) es))) := by
    intro τ' ok' k'
    have o1 := old k' ho tr_out
    have o2 := old k' hoa h.td_out
    have o3 := old k' e1 h.sd_out
    have okf := ok'.set_out (a := sd) (o := .dict (putKey k (.obj (σ.length + 1)) es)) (fun C d q => by rw [o3] at q; cases q) (fun xs q => by rw [o3] at q; cases q) (fun hd => by
      rcases hdom _ hd with q | q
      · exact h.sd_out q
      · have := lt_of_get e1; omega)
    refine hQ _ _ ⟨okf, get_set_ne (ne_kind o3 o1 rfl) o1, ?_, ⟨_, get_set_eq o3, ?_, ?_, ?_⟩, ?_, .inl h.pos⟩ (fun i hi => upd_ne hi) ?_ hdom
    · rw [upd_ne (nec h.pos)]
      exact get_set_ne (ne_kind o3 o2 rfl) o2
    · intro i hi
      rw [lookup_putKey]
      rcases hi with hi | rfl
      · rw [if_neg (hk i hi), upd_ne (nec hi)]; exact e2 i hi
      · rw [if_pos hIN, hAN]
    · intro j hj
      rw [lookup_putKey, if_neg (fun q => hj c (.inr rfl) (by rw [hIN, q]))]
      exact e3 j (fun i hi => hj i (.inl hi))
    · have := putKey_length (k := k) (v := AV.obj (σ.length + 1)) (es := es); omega
    · intro i hi
      rcases hi with hi | rfl
      · rw [upd_ne (nec hi)]; exact h.ne i hi
      · rw [upd_eq]; have := lt_of_get hoa; show σ.length ≠ td; omega
    · intro a o hd e
      exact get_set_ne (fun q => hd (.inr q.symm)) (old k' e (fun q => hd (.inl q)))
  obtain ⟨p1, p2⟩ := ok1.st p (.inl hp)
  rw [hAp] at p1 p2
  have tail : ∀ {n : Nat} {K : AV → Store → Prop}, (∀ τ', τ'[tr]? = some (.inst 347 td) → τ'[td]? = some (.attrs [("_root_stream", .obj (A 0).s), ("_streams", .obj sd), ("_maximum_streams", .int 1000)]) → τ'[sd]? = some (.dict es) → Q .none (τ'.set sd (.dict (putKey k (.obj (σ.length + 1)) es))) → K .none τ') → W (runF (PP P) (n + 4) 179 [.obj (A p).s, .obj (σ.length + 1)] [] τ) K := by
    intro n K hK
    refine c_addc' ok1 (.inl hp) (.inr rfl) hpN hN (by rw [hAp]) hAN fun τ' ok' k' => ?_
    rw [hTp, hTT] at ok'
    exact hK _ (old k' ho tr_out) (old k' hoa h.td_out) (old k' e1 h.sd_out) (fin τ' ok' k')
  have hnb := h.ok.nb
  walk_at "m"
  · rename_i hz
    obtain rfl : ip = 0 := by omega
    refine mT g1 (ciT_s P).gip rfl g2 rfl ?_
    walk_at "m"
    refine c_gip g1 g2 g3 hIp ?_
    walk_at "m"
    refine mS p1 (ciS_s P).addc rfl p2 rfl ?_
    walk_at "m"
    refine tail fun τ' o1 o2 o3 hf => ?_
    walk_at "m"
    refine x_dict o3 (by show es.length < 100000; omega) ?_
    walk_at "m"
    exact hf
  · exfalso; omega
  · refine mT g1 (ciT_s P).gip rfl g2 rfl ?_
    walk_at "m"
    refine c_gip g1 g2 g3 hIp ?_
    walk_at "m"
    refine mS p1 (ciS_s P).addc rfl p2 rfl ?_
    walk_at "m"
    refine tail fun τ' o1 o2 o3 hf => ?_
    walk_at "m"
    refine x_dict o3 (by show es.length < 100000; omega) ?_
    walk_at "m"
    exact hf
/-- a stream is blocked -/
theorem c_block {P : Params} {tr td sd : Nat} {I : Nat → Int} {A : Nat → Ad} {T : Nat → Nd} {S : Nat → Prop} {N p : Nat} {σ : Store} {n : Nat} {Q : AV → Store → Prop} (h : PTr tr td sd I A T S N σ) (hp : S p) (h0 : I p ≠ 0)
    (hQ : ∀ σ', PTr tr td sd I A (upd T p { T p with act := false }) S N σ' → Keep (dom A S) σ σ' → Q .none σ') : W (runF (PP P) (n + 1) 316 [.obj tr, .int (I p)] [] σ) Q := by
  obtain ⟨es, e1, e2, e3, e4⟩ := h.od
  have hIp := e2 p hp
  have ho := h.o
  have hoa := h.oa
  obtain ⟨p1, p2⟩ := h.ok.st p hp
  have okf := h.ok.set_d hp (act := false) (lw := (T p).lw) (df := (T p).df) (h.ok.wt p hp) (h.ok.pr p hp)
  generalize I p = ip at *
  walk_at "enter"
  walk_at "m"
  · exfalso; omega
  exact hQ _ (h.step okf ((Keep.refl _ _).set ⟨p, hp, .inl rfl⟩)) ((Keep.refl _ _).set ⟨p, hp, .inl rfl⟩)
/-- the next turn -/
theorem c_next {P : Params} {tr td sd : Nat} {I : Nat → Int} {A : Nat → Ad} {T : Nat → Nd} {S : Nat → Prop} {N f : Nat} {js : List Nat} {σ : Store} {n : Nat} {Q : AV → Store → Prop} (h : PTr tr td sd I A T S N σ) (hp : Path T 0 js f) (hn : (0 :: js).Nodup) (hN : ∀ i ∈ 0 :: js, S i) (ha : (T 0).act = false)
    (hQ : ∀ σ', PTr tr td sd I A (eff I T 0 js) S N σ' → Keep (dom A S) σ σ' → Q (.int (I f)) σ') : W (runF (PP P) (n + js.length + 5) 344 [.obj tr] [] σ) Q := by
  have ho := h.o
  have hoa := h.oa
  obtain ⟨p1, p2⟩ := h.ok.st 0 h.pos
  walk_at "enter"
  walk_at "m"
  refine mT ho (ciT_s P).nxt' rfl hoa rfl ?_
  walk_at "m"
  show W (runF (PP P) (n + js.length + 3 + 1) 337 [.obj tr] [] σ) _
  walk_at "enter"
  walk_at "m"
  refine mS p1 (ciS_s P).sched rfl p2 rfl ?_
  walk_at "m"
  refine c_sched hp hn hN h.ok ha fun σ' ok' k' => ?_
  walk_at "m"
  exact hQ _ (h.step ok' k') k'

/-- a new tree -/
theorem c_tree {P : Params} {I : Nat → Int} {T : Nat → Nd} {σ : Store} {n : Nat} {Q : AV → Store → Prop} (hI : I 0 = 0) (hT : T 0 = ⟨1, false, 0, 0, [], [], none⟩)
    (hQ : ∀ σ' td sd A, PTr (σ.length + 1) td sd I A T (fun i => i = 0) 0 σ' → (∀ (a : Nat) (o : AO), σ[a]? = some o → σ'[a]? = some o) → (∀ a, domT A (fun i => i = 0) sd a → σ.length ≤ a) → Q (.obj (σ.length + 1)) σ') : W (runF (PP P) (n + 6) 347 [] [] σ) Q := by
  refine w_new (by rfl) (ciT_e P) ?_
  rw [(ciT_s P).init]
  have g1 : (σ ++ [AO.attrs [], AO.inst 347 σ.length])[σ.length + 1]? = some (.inst 347 σ.length) := by simp [List.getElem?_append]
  have g2 : (σ ++ [AO.attrs [], AO.inst 347 σ.length])[σ.length]? = some (.attrs []) := by simp
  have gl : (σ ++ [AO.attrs [], AO.inst 347 σ.length]).length = σ.length + 2 := by simp
  have gk : ∀ (a : Nat) (o : AO), σ[a]? = some o → (σ ++ [AO.attrs [], AO.inst 347 σ.length])[a]? = some o := fun a o e => get_app e
  generalize σ ++ [AO.attrs [], AO.inst 347 σ.length] = σ1 at *
  generalize hs1 : σ.length + 1 = tr at *
  generalize hs0 : σ.length = td at *
  walk_at "enter"
  walk_at "m"
  refine c_streamK (id := 0) (w := 1) (by omega) fun τ f1 f2 f3 f4 fl fk => ?_
  have h1 := fk _ _ g1
  have h2 := fk _ _ g2
  have l1 := lt_of_get g1
  have l2 := lt_of_get g2
  have n1 : td ≠ σ1.length := by omega
  walk_at "m"
  · exfalso; omega
  simp only [List.length_set]
  have n2 : σ1.length ≠ td := Ne.symm n1
  have lsd : σ1.length + 4 ≤ τ.length := by omega
  have m1 : td ≠ σ1.length + 1 := by omega
  have m2 : td ≠ σ1.length + 2 := by omega
  have m3 : td ≠ σ1.length + 3 := by omega
  have m4 : σ1.length ≠ σ1.length + 1 := by omega
  have m5 : σ1.length ≠ σ1.length + 2 := by omega
  have m6 : σ1.length ≠ σ1.length + 3 := by omega
  refine hQ _ td τ.length (fun _ => ⟨σ1.length + 1, σ1.length, σ1.length + 2, σ1.length + 3⟩) ⟨⟨?_, ?_, ?_, ?_, ?_, ?_, ?_, by omega, ?_, ?_, ?_, ?_, ?_⟩, ?_, ?_, ⟨[(0, .obj (σ1.length + 1))], ?_, ?_, ?_, ?_⟩, ?_, rfl⟩ ?_ ?_
  · rintro i rfl
    refine ⟨?_, ?_⟩
    · show _[σ1.length + 1]? = _
      walk_at "sget"
    · rw [hI, hT]
      dsimp only [parV]
      walk_at "sget"
  · rintro i rfl
    refine ⟨[], ?_, by rw [hT]; rfl, fun p hp => by cases hp⟩
    dsimp only [qv, List.map_nil]
    walk_at "sget"
  · rintro i rfl
    rw [hT]; exact Nat.le_refl _
  · rintro i rfl
    rw [hT]
    dsimp only [chV, List.map_nil]
    walk_at "sget"
  · rintro i rfl
    rw [hT]; exact Nat.le_refl _
  · rintro i rfl j hj
    rw [hT] at hj; cases hj
  · rintro i rfl j hj
    rw [hT] at hj; cases hj
  · rintro i rfl
    rw [hT]; dsimp only; omega
  · intro i j hi hj hij; exact absurd (hi.trans hj.symm) hij
  · intro i j hi hj hij; exact absurd (hi.trans hj.symm) hij
  · intro i j hi hj hij; exact absurd (hi.trans hj.symm) hij
  · intro i j hi hj; dsimp only; omega
  · walk_at "sget"
  · refine' Eq.trans (get_set_eq ?g) rfl
    case g => walk_at "sget"
  · refine get_set_ne (by omega) (get_set_ne (by omega) ?_)
    have : τ.length = ((List.set τ td (AO.attrs (putAttr "_root_stream" (AV.obj (List.length σ1 + 1)) []))).set (List.length σ1) (AO.attrs (sfs 0 1 (List.length σ1 + 2) AV.none (List.length σ1 + 3) false 0 0))).length := by simp
    exact (congrArg (fun n => (_ : Store)[n]?) this).trans get_new
  · rintro i rfl
    rw [hI]; rfl
  · intro k hk
    have := hk 0 rfl
    rw [hI] at this
    rw [List.lookup_cons, beq_eq_false_iff_ne.mpr (Ne.symm this)]; rfl
  · exact Nat.le_refl _
  · intro i hi; exact n2
  · intro a o e
    have la := lt_of_get e
    exact get_set_ne (by omega) (get_set_ne (by omega) (get_app (get_set_ne (by omega) (get_set_ne (by omega) (fk _ _ (gk _ _ e))))))
  · rintro a (⟨i, hi, q⟩ | q)
    · dsimp only at q; omega
    · omega

theorem c_pick {P : Params} {σ : Store} {n sc : Nat} {ns : List Int} {o : Obj} {place count : Int} {Q : AV → Store → Prop} (h : σ[sc]? = some (.rol (ns.map .int) o)) (hl : ns.length ≤ 63) (hp : 0 ≤ place) (hc : 0 < count)
    (hQ : ∀ v, 0 ≤ v → v < count → Q (.int v) σ) : W (runF (PP P) (n + 1) 358 [.obj sc, .int place, .int count] [] σ) Q := by
  walk_at "enter"
  have hlen : (ns.map AV.int).length = ns.length := List.length_map ..
  walk_at "m"
  · exact hQ _ (Int.emod_nonneg _ (by omega)) (Int.emod_lt_of_pos _ hc)
  · rename_i hne
    have hm0 := Int.emod_nonneg place (show ((List.map AV.int ns).length : Int) ≠ 0 by omega)
    have hm1 := Int.emod_lt_of_pos place (show (0 : Int) < ((List.map AV.int ns).length : Int) by omega)
    refine i_rol h hm0 (v := .int (ns.getD (place % ((List.map AV.int ns).length : Int)).toNat 0)) ?_ ?_
    · rw [List.getElem?_map, List.getD_eq_getElem?_getD, List.getElem?_eq_getElem (by omega)]; rfl
    walk_at "m"
    exact hQ _ (Int.emod_nonneg _ (by omega)) (Int.emod_lt_of_pos _ hc)
theorem c_firsts {P : Params} {ns : List Int} {o : Obj} {m : Nat} {pl : Pl} {hA : Nat → Nat} {b : Nat} {σ : Store} {n x : Nat} {Q : AV → Store → Prop} (h : Pk ns o m pl hA b σ) (hx : x < m) (hl : (pl.hs x).length ≤ 2)
    (hQ : ∀ τ r, Ext σ τ → τ[r]? = some (natsV (firsts pl x)) → (r = hA x ∨ σ.length ≤ r) → Q (.obj r) τ) : W (runF (PP P) (n + 1) 365 [.obj 9, .obj 7, .int x] [] σ) Q := by
  have e7 := h.sS
  have e9 := h.hH
  have eR := h.hR x hx
  generalize hxx : (x : Int) = xx
  walk_at "enter"
  walk_at "m"
  refine i_list e7 (by omega) (arr_get hxx.symm hx) ?_
  walk_at "m"
  · rename_i hs
    refine i_list e9 (by omega) (rng_get hxx.symm hx) ?_
    walk_at "m"
    refine sl_to eR (by omega) (by rw [List.length_map]; show _ < 100000; omega) ?_
    walk_at "m"
    refine hQ _ _ (Ext.refl σ).app ?_ (.inr (Nat.le_refl _))
    rw [get_new, firsts, if_pos hs, ← List.map_take]; rfl
  · rename_i hs
    refine i_list e9 (by omega) (rng_get hxx.symm hx) ?_
    walk_at "m"
    refine hQ _ _ (Ext.refl σ) ?_ (.inl rfl)
    rw [eR, firsts, if_neg hs]
theorem c_up {P : Params} {σ : Store} {n : Nat} {t w wh s : Int} {lower : Bool} {Q : AV → Store → Prop} (ht : 0 ≤ t ∧ t < 1000000) (hw : 0 < w ∧ w ≤ 256) (hwh : 0 ≤ wh ∧ wh ≤ 256) (hs : 0 ≤ s ∧ s ≤ 3)
    (hQ : Q (.int (upI t w wh s lower)) σ) : W (runF (PP P) (n + 1) 379 [.int t, .int w, .int wh, .int s, .bool lower] [] σ) Q := by
  unfold upI at hQ
  walk_at "enter"
  walk_at "m"
  cases lower with
  | true =>
    simp only [if_true] at hQ
    walk_at "m"
    · rename_i h1; rw [if_pos h1] at hQ; exact hQ
    · rename_i h1; rw [if_neg h1] at hQ; exact hQ
  | false =>
    simp only [Bool.false_eq_true, if_false] at hQ
    walk_at "m"
    exact hQ

def Cnt (S : Nat → Prop) (N : Nat) : Prop := ∃ L : List Nat, L.Nodup ∧ (∀ j ∈ L, S j) ∧ L.length = N + 1
theorem Cnt.le {S : Nat → Prop} {N m : Nat} (h : Cnt S N) (hm : ∀ j, S j → j < m) : N + 1 ≤ m := by
  obtain ⟨L, a, b, c⟩ := h
  have := List.Nodup.length_le_of_subset a (l₂ := List.range m) (fun x hx => List.mem_range.mpr (hm x (b x hx)))
  rw [List.length_range] at this
  omega
theorem Cnt.add {S : Nat → Prop} {N x : Nat} (h : Cnt S N) (hx : ¬ S x) : Cnt (fun i => S i ∨ i = x) (N + 1) := by
  obtain ⟨L, a, b, c⟩ := h
  refine ⟨x :: L, List.nodup_cons.mpr ⟨fun q => hx (b x q), a⟩, fun j hj => ?_, by rw [List.length_cons, c]⟩
  rcases List.mem_cons.mp hj with e | hj
  · exact .inr e
  · exact .inl (b j hj)
theorem c_lay {P : Params} {ns : List Int} {o : Obj} {m : Nat} {pl : Pl} {hA : Nat → Nat} {b tr td sd N ar : Nat} {S B : Nat → Prop} {c : Nat → Int} {A : Nat → Ad} {T : Nat → Nd} {rows : List Nat} {σ : Store} {n : Nat} {Q : AV → Store → Prop}
    (ok : PlOk m pl) (li : LayInv m pl S B c T rows) (pk : Pk ns o m pl hA b σ) (pt : PTr tr td sd pl.num A T S N σ) (hd : ∀ a, domT A S sd a → b ≤ a) (er : σ[ar]? = some (natsV rows)) (hc : Cnt S N)
    (hQ : ∀ σ' S' B' A' T' N', GInv m pl S' B' c T' → PTr tr td sd pl.num A' T' S' N' σ' → Cnt S' N' → Keep (domT A S sd) σ σ' → (∀ a, domT A' S' sd a → domT A S sd a ∨ σ.length ≤ a) → Q .none σ') :
    W (runF (PP P) (n + 7) 372 [.obj tr, .obj 1, .obj 2, .obj 3, .obj 6, .obj 7, .obj 9, .obj ar] [] σ) Q := by
  have hrl : ∀ {S B : Nat → Prop} {T : Nat → Nd} {l : List Nat}, LayInv m pl S B c T l → l.length ≤ 9 := fun h => by
    have := List.Nodup.length_le_of_subset h.td.nd (l₂ := List.range m) (fun x hx => List.mem_range.mpr (h.td.a x hx).2.1)
    rw [List.length_range] at this
    have := ok.m9
    omega
  have hbs : b ≤ sd := hd sd (.inr rfl)
  have hsl : sd < σ.length := pt.dom_lt (.inr rfl)
  have hb12 := pk.b12
  have hl0 := hrl li
  walk_at "enter"
  walk_at "m"
  refine sl_all er (by rw [List.length_map]; show _ < 100000; omega) ?_
  walk_at "m"
  refine s_while (fun k ρ τ => ∃ S1 B1 A1 T1 N1 todo, k = 9 - N1 ∧ LayInv m pl S1 B1 c T1 todo ∧ PTr tr td sd pl.num A1 T1 S1 N1 τ ∧ Cnt S1 N1 ∧ τ[σ.length]? = some (natsV todo) ∧ Keep (domT A S sd) σ τ ∧ (∀ a, domT A1 S1 sd a → domT A S sd a ∨ σ.length < a) ∧
    Has ρ [("tree", .obj tr), ("numbers", .obj 1), ("parents", .obj 2), ("weights", .obj 3), ("waits", .obj 6), ("skips", .obj 7), ("heirs", .obj 9), ("todo", .obj σ.length)]) ?_ (n := 9 - N) (by show _ < 50000; omega) ⟨S, B, A, T, N, rows, rfl, li, pt.ext (Ext.refl σ).app, hc, get_new, Keep.of_ext (Ext.refl σ).app, fun a h => .inl h, by walk_at "hasl"⟩
  rintro k ρ τ ⟨S1, B1, A1, T1, N1, todo, rfl, li1, pt1, hc1, et, kp, hd1, L⟩
  have hll := hrl li1
  have htl : (todo.map fun (j : Nat) => AV.int (j : Int)).length = todo.length := List.length_map ..
  walk_at "m"
  · rename_i h0
    obtain ⟨x, rest, rfl⟩ : ∃ x rest, todo = x :: rest := by
      cases todo with
      | nil => exact absurd rfl h0
      | cons x rest => exact ⟨x, rest, rfl⟩
    obtain ⟨hx0, hxm, hxS, hxB⟩ := li1.td.a x List.mem_cons_self
    have hpm : pl.pa x < m := Nat.lt_trans (ok.pa_lt hx0 hxm) hxm
    have hpS := (li1.l.bs _ hxB).1
    have hw := ok.w hx0 hxm
    have hNm := hc1.le li1.l.sm
    have hm9 := ok.m9
    refine lm_pop (v := .int (x : Int)) rfl (by omega) rfl ?_
    have es : ((x :: rest).map fun (j : Nat) => AV.int (j : Int)).eraseIdx (Int.toNat 0) = rest.map fun (j : Nat) => AV.int (j : Int) := rfl
    rw [es]
    have hto : ¬ domT A1 S1 sd σ.length := fun q => by
      rcases hd1 _ q with q | q
      · exact Nat.lt_irrefl _ (pt.dom_lt q)
      · exact Nat.lt_irrefl _ q
    have pt2 := pt1.set_list (o := natsV rest) et (fun q => hto (.inl q))
    have kp2 : Keep (domT A S sd) σ (τ.set σ.length (natsV rest)) := fun a o' hn e => get_set_ne (Nat.ne_of_gt (lt_of_get e)) (kp a o' hn e)
    have et2 : (τ.set σ.length (natsV rest))[σ.length]? = some (natsV rest) := get_set_eq et
    clear pt1 et
    generalize τ.set σ.length (natsV rest) = τ2 at *
    have pk2 := pk.keep kp2 hd
    have e1 := pk2.nN
    have e2 := pk2.pP
    have e3 := pk2.wW
    have to := pt2.o
    have toa := pt2.oa
    walk_at "m"
    refine mT to (ciT_s P).ins rfl toa rfl ?_
    walk_at "m"
    refine i_list e1 (by omega) (arr_get rfl hxm) ?_
    walk_at "m"
    refine i_list (v := .int ((pl.pa x : Nat) : Int)) e2 (by omega) (arr_get rfl hxm) ?_
    walk_at "m"
    refine i_list e1 (by omega) (arr_get rfl hpm) ?_
    walk_at "m"
    refine i_list e3 (by omega) (arr_get rfl hxm) ?_
    walk_at "m"
    refine c_insert pt2 hpS hxS (fun i hi e => ?_) rfl ⟨hw.1, hw.2.2.1⟩ (by omega) fun τ3 A3 pt3 hA3 k3 d3 => ?_
    · have him := li1.l.sm i hi
      have hne : i ≠ x := fun q => hxS (q ▸ hi)
      rcases Nat.lt_or_gt_of_ne hne with h1 | h1
      · have := ok.nm _ _ h1 hxm; omega
      · have := ok.nm _ _ h1 him; omega
    have hd3 : ∀ a, domT A3 (fun i => S1 i ∨ i = x) sd a → domT A S sd a ∨ σ.length < a := by
      rintro a (q | q)
      · rcases d3 a q with q | q
        · exact hd1 a (.inl q)
        · have := lt_of_get et2; omega
      · exact .inl (.inr q)
    have kp3 : Keep (domT A S sd) σ τ3 := fun a o' hn e => k3 a o' (fun q => by
      rcases hd1 a q with q | q
      · exact hn q
      · have := lt_of_get e; omega) (kp2 a o' hn e)
    have et3 := k3 _ _ hto et2
    have hto3 : ¬ domT A3 (fun i => S1 i ∨ i = x) sd σ.length := fun q => by
      rcases hd3 _ q with q | q
      · exact Nat.lt_irrefl _ (pt.dom_lt q)
      · exact Nat.lt_irrefl _ q
    have pk3 := pk.keep kp3 hd
    have e6 := pk3.aW
    have hc3 := hc1.add hxS
    have hIT : upd (upd T1 x ⟨pl.wt x, true, 0, 0, [], [], some (pl.pa x)⟩) (pl.pa x) { T1 (pl.pa x) with q := ins pl.num ((T1 (pl.pa x)).lw, x) (T1 (pl.pa x)).q, ch := (T1 (pl.pa x)).ch ++ [x] } = insT pl T1 x := rfl
    rw [hIT] at pt3
    walk_at "m"
    refine i_list e6 (by omega) (arr_get rfl hxm) ?_
    walk_at "m"
    · rename_i hwa
      have to3 := pt3.o
      have toa3 := pt3.oa
      have e31 := pk3.nN
      refine mT to3 (ciT_s P).block rfl toa3 rfl ?_
      walk_at "m"
      refine i_list e31 (by omega) (arr_get rfl hxm) ?_
      walk_at "m"
      have hn0 : pl.num x ≠ 0 := by have := ok.nm 0 x hx0 hxm; rw [ok.n0] at this; omega
      refine c_block (n := n + 5) pt3 (.inr rfl) hn0 fun τ4 pt4 k4 => ?_
      have kp4 : Keep (domT A S sd) σ τ4 := fun a o' hn e => k4 a o' (fun q => by
        rcases hd3 a (.inl q) with q | q
        · exact hn q
        · have := lt_of_get e; omega) (kp3 a o' hn e)
      have et4 := k4 _ _ (fun q => hto3 (.inl q)) et3
      have pk4 := pk.keep kp4 hd
      have li4 := li1.opened ok hwa
      have hl4 := hrl li4
      rw [List.length_append] at hl4
      walk_at "m"
      refine c_firsts pk4 hxm ?_ fun τ5 r x5 e5 h5 => ?_
      · rcases ok.kids x hxm with e | ⟨l, k⟩
        · rw [e]; exact Nat.zero_le _
        · rcases k.hs with e | ⟨e, _⟩ <;> rw [e] <;> exact Nat.le_refl _
      have et5 := x5 _ _ et4
      have h8 := (pk.h8 x hxm).2
      walk_at "m"
      refine lm_extend rfl e5 (by rcases h5 with rfl | h5; omega; have := lt_of_get et4; omega) (by rw [List.length_map, List.length_map]; show _ < 100000; omega) ?_
      walk_at "m"
      refine ⟨9 - (N1 + 1), by omega, _, _, A3, _, N1 + 1, _, rfl, li4, (pt4.ext x5).set_list et5 (fun q => hto3 (.inl q)), hc3, ?_, fun a o' hn e => get_set_ne (Nat.ne_of_gt (lt_of_get e)) (x5 _ _ (kp4 a o' hn e)), hd3, by walk_at "hasl"⟩
      rw [get_set_eq et5, ← List.map_append]
    · rename_i hwa
      refine ⟨9 - (N1 + 1), by omega, _, _, A3, _, N1 + 1, _, rfl, li1.leaf ok hwa, pt3, hc3, et3, kp3, hd3, by walk_at "hasl"⟩
  · rename_i h0
    obtain rfl : todo = [] := by
      cases todo with
      | nil => rfl
      | cons x rest => exact absurd (fun q => by cases q) h0
    exact hQ _ _ _ _ _ _ li1.done pt1 hc1 kp fun a q => (hd1 a q).imp id Nat.le_of_lt

noncomputable def lawB0 (P : Params) : CB := ((fnAt (hd03.heap_39 P) 386).getD default).body
noncomputable def lawT (P : Params) : { b : CB // lawB0 P = b } := by
  refine ⟨?b, ?e⟩
  case e => (conv => (lhs; reduce))
noncomputable def lawB (P : Params) : CB := (lawT P).1
def pas (c : Nat → Int) (j : Nat) : Int := if j = 0 then 0 else c j
def lineV (ls : List (Nat × Int × Int)) : AO := .list (ls.map fun p => .obj p.1)
/-- the law's things beside the tree's numbers -/
structure Rs (ns : List Int) (o : Obj) (m : Nat) (pl : Pl) (hA : Nat → Nat) (b aP aL td sd : Nat) (S : Nat → Prop) (A : Nat → Ad) (T : Nat → Nd) (N : Nat) (c : Nat → Int) (ls : List (Nat × Int × Int)) (σ : Store) : Prop where
  pk : Pk ns o m pl hA b σ
  pt : PTr (b + 1) td sd pl.num A T S N σ
  hd : ∀ a, domT A S sd a → b ≤ a ∧ a ≠ aP ∧ a ≠ aL
  eP : σ[aP]? = some (.list (arr m (pas c)))
  eL : σ[aL]? = some (lineV ls)
  eT : ∀ p ∈ ls, σ[p.1]? = some (.tup [.int p.2.1, .int p.2.2])
  dP : b < aP ∧ b < aL ∧ aP ≠ aL
theorem Rs.ext {ns : List Int} {o : Obj} {m : Nat} {pl : Pl} {hA : Nat → Nat} {b aP aL td sd : Nat} {S : Nat → Prop} {A : Nat → Ad} {T : Nat → Nd} {N : Nat} {c : Nat → Int} {ls : List (Nat × Int × Int)} {σ τ : Store} (h : Rs ns o m pl hA b aP aL td sd S A T N c ls σ) (x : Ext σ τ) : Rs ns o m pl hA b aP aL td sd S A T N c ls τ :=
  ⟨h.pk.keep (D := fun _ => False) (fun a o _ e => x a o e) (fun a q => q.elim), h.pt.ext x, h.hd, x _ _ h.eP, x _ _ h.eL, fun p hp => x _ _ (h.eT p hp), h.dP⟩
/-- the tree moves on -/
theorem Rs.move {ns : List Int} {o : Obj} {m : Nat} {pl : Pl} {hA : Nat → Nat} {b aP aL td sd : Nat} {S S' : Nat → Prop} {A A' : Nat → Ad} {T T' : Nat → Nd} {N N' : Nat} {c : Nat → Int} {ls : List (Nat × Int × Int)} {σ τ : Store} (h : Rs ns o m pl hA b aP aL td sd S A T N c ls σ) (pt : PTr (b + 1) td sd pl.num A' T' S' N' τ) (k : Keep (domT A S sd) σ τ) (hd : ∀ a, domT A' S' sd a → domT A S sd a ∨ σ.length ≤ a) :
    Rs ns o m pl hA b aP aL td sd S' A' T' N' c ls τ :=
  ⟨h.pk.keep k (fun a q => (h.hd a q).1), pt, fun a q => by
    rcases hd a q with q | q
    · exact h.hd a q
    · have h1 := lt_of_get h.eP
      have h2 := lt_of_get h.eL
      have h3 := h.dP
      omega, k _ _ (fun q => (h.hd _ q).2.1 rfl) h.eP, k _ _ (fun q => (h.hd _ q).2.2 rfl) h.eL, fun p hp => k _ _ (fun q => by
    rcases q with q | q
    · exact h.pt.ok.out ⟨by simp [kind], by simp [kind]⟩ (h.eT p hp) q
    · obtain ⟨es, e, _⟩ := h.pt.od
      exact ne_kind e (h.eT p hp) rfl q.symm) (h.eT p hp), h.dP⟩
theorem Rs.keepD {ns : List Int} {o : Obj} {m : Nat} {pl : Pl} {hA : Nat → Nat} {b aP aL td sd : Nat} {S : Nat → Prop} {A : Nat → Ad} {T T' : Nat → Nd} {N : Nat} {c : Nat → Int} {ls : List (Nat × Int × Int)} {σ τ : Store} (h : Rs ns o m pl hA b aP aL td sd S A T N c ls σ) (pt : PTr (b + 1) td sd pl.num A T' S N τ) (k : Keep (dom A S) σ τ) :
    Rs ns o m pl hA b aP aL td sd S A T' N c ls τ := h.move pt (k.wide fun _ q => .inl q) (fun _ q => .inl q)
/-- a list that is none of them changes -/
theorem Rs.set {ns : List Int} {o : Obj} {m : Nat} {pl : Pl} {hA : Nat → Nat} {b aP aL td sd : Nat} {S : Nat → Prop} {A : Nat → Ad} {T : Nat → Nd} {N : Nat} {c : Nat → Int} {ls : List (Nat × Int × Int)} {σ : Store} {a : Nat} {x : AO} {xs : List AV} (h : Rs ns o m pl hA b aP aL td sd S A T N c ls σ) (e : σ[a]? = some (.list xs)) (hn : ¬ domT A S sd a) (hb : b < a) (h1 : a ≠ aP) (h2 : a ≠ aL) :
    Rs ns o m pl hA b aP aL td sd S A T N c ls (σ.set a x) :=
  ⟨h.pk.keep (D := fun y => y = a) (fun y o' n e' => get_set_ne (fun q => n q.symm) e') (fun y q => by omega), h.pt.set_list e (fun q => hn (.inl q)), h.hd, get_set_ne h1 h.eP, get_set_ne h2 h.eL, fun p hp => get_set_ne (ne_kind e (h.eT p hp) rfl) (h.eT p hp), h.dP⟩
theorem Rs.setP {ns : List Int} {o : Obj} {m : Nat} {pl : Pl} {hA : Nat → Nat} {b aP aL td sd : Nat} {S : Nat → Prop} {A : Nat → Ad} {T : Nat → Nd} {N : Nat} {c c' : Nat → Int} {ls : List (Nat × Int × Int)} {σ : Store} (h : Rs ns o m pl hA b aP aL td sd S A T N c ls σ) :
    Rs ns o m pl hA b aP aL td sd S A T N c' ls (σ.set aP (.list (arr m (pas c')))) :=
  ⟨h.pk.keep (D := fun y => y = aP) (fun y o' n e' => get_set_ne (fun q => n q.symm) e') (fun y q => by have := h.dP; omega), h.pt.set_list h.eP (fun q => (h.hd _ (.inl q)).2.1 rfl), h.hd, get_set_eq h.eP, get_set_ne h.dP.2.2 h.eL, fun p hp => get_set_ne (ne_kind h.eP (h.eT p hp) rfl) (h.eT p hp), h.dP⟩
theorem Rs.setL {ns : List Int} {o : Obj} {m : Nat} {pl : Pl} {hA : Nat → Nat} {b aP aL td sd : Nat} {S : Nat → Prop} {A : Nat → Ad} {T : Nat → Nd} {N : Nat} {c : Nat → Int} {ls ls' : List (Nat × Int × Int)} {σ : Store} (h : Rs ns o m pl hA b aP aL td sd S A T N c ls σ) (hT : ∀ p ∈ ls', σ[p.1]? = some (.tup [.int p.2.1, .int p.2.2])) :
    Rs ns o m pl hA b aP aL td sd S A T N c ls' (σ.set aL (lineV ls')) :=
  ⟨h.pk.keep (D := fun y => y = aL) (fun y o' n e' => get_set_ne (fun q => n q.symm) e') (fun y q => by have := h.dP; omega), h.pt.set_list h.eL (fun q => (h.hd _ (.inl q)).2.2 rfl), h.hd, get_set_ne (Ne.symm h.dP.2.2) h.eP, get_set_eq h.eL, fun p hp => get_set_ne (ne_kind h.eL (hT p hp) rfl) (hT p hp), h.dP⟩
def llocs (b aP aL : Nat) (turns : Int) : Mini.Loc := [("script", .obj 0), ("turns", .int turns), ("numbers", .obj 1), ("parents", .obj 2), ("weights", .obj 3), ("wholes", .obj 4), ("waits", .obj 6), ("skips", .obj 7), ("heirs", .obj 9), ("tree", .obj (b + 1)), ("passed", .obj aP), ("line", .obj aL)]
def nthS : CB → Nat → CB
  | b, 0 => b
  | .nil, _ => .nil
  | .cons _ r, n + 1 => nthS r n

noncomputable def trnB (P : Params) : CB := forBody (cbAt (lawB P) 9)
/-- up from the one served -/
theorem t_climb {P : Params} {F : Nat} {ns : List Int} {o : Obj} {m : Nat} {pl : Pl} {hA : Nat → Nat} {b aP aL aR td sd N f : Nat} {S S0 B : Nat → Prop} {A : Nat → Ad} {T : Nat → Nd} {c : Nat → Int} {ls : List (Nat × Int × Int)} {js rs : List Nat} {i turns : Int} {ρ : Mini.Loc} {σ : Store} {K : KS}
    (ok : PlOk m pl) (L : Has ρ (("one", .int f) :: ("rows", .obj aR) :: llocs b aP aL turns)) (hc : Ch m pl S0 B c 0 js f) (hnb : ¬ B f) (hBc : ∀ j ∈ js, B (pl.pa j)) (h : Rs ns o m pl hA b aP aL td sd S A T N c ls σ) (eR : σ[aR]? = some (natsV rs)) (hR : ¬ domT A S sd aR ∧ b < aR ∧ aR ≠ aP ∧ aR ≠ aL)
    (hrs : rs.Nodup ∧ ∀ x ∈ rs, pl.pa x = f) (hrl : rs.length ≤ 2) (hj0 : ∀ j ∈ js, 0 < j ∧ j < m) (hnd : js.Nodup)
    (hQ : ∀ ρ' σ' rs', Has ρ' (("rows", .obj aR) :: llocs b aP aL turns) → Rs ns o m pl hA b aP aL td sd S A T N (bumps c js) ls σ' → σ'[aR]? = some (natsV rs') → rs'.Nodup → (∀ x, x ∈ rs' ↔ x ∈ rs ∨ ∃ j ∈ js, 0 < pl.sk (pl.pa j) ∧ j % 2 = 1 ∧ c j = pl.sk (pl.pa j) ∧ x = j + 1) → K.nxt ρ' σ')
    : WS (exec (XX P (F + 20)) [] (cbAt (trnB P) 6) ρ σ) K := by
  rw [show cbAt (trnB P) 6 = _ by (conv => (lhs; reduce))]
  dsimp only [Int.reduceOfNat, Int.reduceNegSucc]
  unfold llocs at L hQ
  have hal : ∀ f : Nat → Int, (arr m f).length = m := fun f => arr_len
  refine s_while (fun n ρ τ => ∃ pre suf rs', js = pre ++ suf ∧ n = pre.length ∧ Has ρ (("one", .int (endOf 0 pre)) :: ("rows", .obj aR) :: llocs b aP aL turns) ∧ Rs ns o m pl hA b aP aL td sd S A T N (bumps c suf) ls τ ∧ τ[aR]? = some (natsV rs') ∧ rs'.Nodup ∧ rs'.length ≤ 2 + suf.length ∧ (∀ x, x ∈ rs' ↔ x ∈ rs ∨ ∃ j ∈ suf, 0 < pl.sk (pl.pa j) ∧ j % 2 = 1 ∧ c j = pl.sk (pl.pa j) ∧ x = j + 1)) ?_ (n := js.length) ?_ ⟨js, [], rs, by simp, rfl, by rw [hc.end_]; unfold llocs; walk_at "hasl", ?_, eR, hrs.1, by simp; omega, by simp⟩
  · rintro n2 ρ2 τ ⟨pre, suf, rs', hjs, rfl, L2, h2, eR2, hn2, hl2, hm2⟩
    unfold llocs at L2
    rcases snoc pre with rfl | ⟨pre', x, rfl⟩
    · walk_at "m"
      · rename_i h0; exact absurd h0 (by show ¬ (0 : Int) < ((0 : Nat) : Int); omega)
      · rw [List.nil_append] at hjs
        subst hjs
        exact hQ _ _ rs' (by walk_at "hasl") h2 eR2 hn2 hm2
    · have hend : endOf 0 (pre' ++ [x]) = x := endOf_append
      rw [hend] at L2
      rw [List.append_assoc, List.singleton_append] at hjs
      have hxj : x ∈ js := by rw [hjs]; exact List.mem_append_right _ List.mem_cons_self
      obtain ⟨hx0, hxm⟩ := hj0 x hxj
      have hpx := hc.pre hjs
      have hpm : pl.pa x < m := Nat.lt_trans (ok.pa_lt hx0 hxm) hxm
      have hxs : x ∉ suf := by
        rw [hjs] at hnd
        exact (List.nodup_cons.mp (List.nodup_append.mp hnd).2.1).1
      have hb1 : ∀ y, bumps c (x :: suf) y = upd (bumps c suf) x (bumps c suf x + 1) y := by
        intro y; unfold bumps upd
        by_cases e : y = x
        · subst e; simp [hxs]
        · simp [e]
      have hbx : bumps c suf x = c x := if_neg hxs
      have hpas : arr m (upd (pas (bumps c suf)) x (c x + 1)) = arr m (pas (bumps c (x :: suf))) := by
        refine arr_congr fun y _ => ?_
        unfold pas
        rw [hb1]
        unfold upd
        by_cases e : y = x
        · subst e; rw [if_pos rfl, if_neg (by omega), if_pos rfl, hbx]
        · rw [if_neg e, if_neg e]
      have hpv : pas (bumps c suf) x = c x := by unfold pas; rw [if_neg (by omega), hbx]
      have eP := h2.eP
      have hk := ok.par x hx0 hxm
      have hw := ok.w hx0 hxm
      have hlow := lowOf_cases x hx0
      have hRl : ∀ y, y < m → τ[hA y]? = some (natsV (pl.hs y)) := h2.pk.hR
      have hrl' : (rs'.map fun (j : Nat) => AV.int (j : Int)).length = rs'.length := List.length_map ..
      have hsl : suf.length ≤ 9 := by
        have h1 := List.Nodup.length_le_of_subset hnd (l₂ := List.range m) (fun y hy => List.mem_range.mpr (hj0 y hy).2)
        rw [List.length_range, hjs, List.length_append, List.length_cons] at h1
        have := ok.m9
        omega
      have fin : ∀ ρ' τ' rs'', Has ρ' (("one", .int (pl.pa x)) :: ("rows", .obj aR) :: llocs b aP aL turns) → Rs ns o m pl hA b aP aL td sd S A T N (bumps c (x :: suf)) ls τ' → τ'[aR]? = some (natsV rs'') → rs''.Nodup → rs''.length ≤ 2 + (x :: suf).length → (∀ y, y ∈ rs'' ↔ y ∈ rs' ∨ (0 < pl.sk (pl.pa x) ∧ x % 2 = 1 ∧ c x = pl.sk (pl.pa x) ∧ y = x + 1)) →
          ∃ k, k < (pre' ++ [x]).length ∧ ∃ pre suf rs', js = pre ++ suf ∧ k = pre.length ∧ Has ρ' (("one", .int (endOf 0 pre)) :: ("rows", .obj aR) :: llocs b aP aL turns) ∧ Rs ns o m pl hA b aP aL td sd S A T N (bumps c suf) ls τ' ∧ τ'[aR]? = some (natsV rs') ∧ rs'.Nodup ∧ rs'.length ≤ 2 + suf.length ∧ (∀ x, x ∈ rs' ↔ x ∈ rs ∨ ∃ j ∈ suf, 0 < pl.sk (pl.pa j) ∧ j % 2 = 1 ∧ c j = pl.sk (pl.pa j) ∧ x = j + 1) := by
        intro ρ' τ' rs'' a1 a2 a3 a4 a5 a6
        refine ⟨pre'.length, by simp, pre', x :: suf, rs'', hjs, rfl, by rw [← hpx]; exact a1, a2, a3, a4, a5, fun y => ?_⟩
        rw [a6 y, hm2 y]
        constructor
        · rintro ((q | ⟨j, hj, q⟩) | q)
          · exact .inl q
          · exact .inr ⟨j, List.mem_cons_of_mem _ hj, q⟩
          · exact .inr ⟨x, List.mem_cons_self, q⟩
        · rintro (q | ⟨j, hj, q⟩)
          · exact .inl (.inl q)
          · rcases List.mem_cons.mp hj with rfl | hj
            · exact .inr q
            · exact .inl (.inr ⟨j, hj, q⟩)
      have h3 := h2.setP (c' := bumps c (x :: suf))
      have eR3 : (τ.set aP (.list (arr m (pas (bumps c (x :: suf))))))[aR]? = some (natsV rs') := get_set_ne (Ne.symm hR.2.2.1) eR2
      walk_at "m"
      · refine i_list eP (by omega) (arr_get rfl hxm) ?_
        rw [hpv]
        walk_at "m"
        refine x_list eP (by omega) (by rw [hal]; omega) ?_
        rw [arr_set rfl hxm, hpas]
        generalize τ.set aP (.list (arr m (pas (bumps c (x :: suf))))) = τ3 at *
        have f2 := h3.pk.pP
        have f7 := h3.pk.sS
        have f9 := h3.pk.hH
        have fR := h3.pk.hR _ hpm
        have fP := h3.eP
        have hpv3 : pas (bumps c (x :: suf)) x = c x + 1 := by unfold pas; rw [if_neg (by omega), hb1, upd_eq, hbx]
        walk_at "m"
        refine i_list (v := .int ((pl.pa x : Nat) : Int)) f2 (by omega) (arr_get rfl hxm) ?_
        walk_at "m"
        refine i_list f7 (by omega) (arr_get rfl hpm) ?_
        walk_at "m"
        · rename_i hs
          have hhs : pl.hs (pl.pa x) = [lowOf x, lowOf x + 1] := by
            rcases hk.hs with e | ⟨_, e⟩
            · exact e
            · omega
          rw [hhs] at fR
          refine i_list f9 (by omega) (rng_get rfl hpm) ?_
          walk_at "m"
          · rename_i he
            have hxo : x % 2 = 1 ∧ lowOf x = x := by omega
            rw [hxo.2] at hhs fR hk
            refine i_list fP (by omega) (arr_get rfl hxm) ?_
            rw [hpv3]
            walk_at "m"
            refine i_list f7 (by omega) (arr_get rfl hpm) ?_
            walk_at "m"
            · rename_i hcx
              refine i_list f9 (by omega) (rng_get rfl hpm) ?_
              walk_at "m"
              · rw [hrl']; show _ < 100000; omega
              · have hnew : x + 1 ∉ rs' := by
                  rw [hm2]
                  rintro (q | ⟨j, hj, q1, q2, q3, q4⟩)
                  · have := hrs.2 _ q
                    rw [hk.pj1] at this
                    exact hnb (this ▸ hBc x hxj)
                  · have : j = x := by omega
                    exact hxs (this ▸ hj)
                refine fin _ _ (rs' ++ [x + 1]) (by unfold llocs; walk_at "hasl") (h3.set eR3 hR.1 hR.2.1 hR.2.2.1 hR.2.2.2) ?_ ?_ (by simp; omega) ?_
                · rw [get_set_eq eR3]; simp
                · rw [List.nodup_append]
                  refine ⟨hn2, by simp, fun a ha b' hb' e => ?_⟩
                  rw [List.mem_singleton] at hb'
                  exact hnew (by rw [← hb', ← e]; exact ha)
                · intro y
                  rw [List.mem_append, List.mem_singleton]
                  have : c x = pl.sk (pl.pa x) := by omega
                  constructor
                  · exact fun q => q.imp id (fun q => ⟨hs, hxo.1, this, q⟩)
                  · exact fun q => q.imp id (fun q => q.2.2.2)
            · rename_i hcx
              refine fin _ _ rs' (by unfold llocs; walk_at "hasl") h3 eR3 hn2 (by simp; omega) fun y => ⟨.inl, fun q => q.resolve_right (fun q => by omega)⟩
          · exfalso; omega
          · rename_i he
            refine fin _ _ rs' (by unfold llocs; walk_at "hasl") h3 eR3 hn2 (by simp; omega) fun y => ⟨.inl, fun q => q.resolve_right (fun q => by omega)⟩
        · exfalso; omega
        · rename_i hs
          refine fin _ _ rs' (by unfold llocs; walk_at "hasl") h3 eR3 hn2 (by simp; omega) fun y => ⟨.inl, fun q => q.resolve_right (fun q => by omega)⟩
      · rename_i h0; exact absurd h0 (by omega)
  · have h1 := List.Nodup.length_le_of_subset hnd (l₂ := List.range m) (fun y hy => List.mem_range.mpr (hj0 y hy).2)
    rw [List.length_range] at h1
    have := ok.m9
    show js.length < 50000
    omega
  · have : bumps c [] = c := by funext y; unfold bumps; simp
    rw [this]; exact h

def LineOk (m : Nat) (pl : Pl) (ls : List (Nat × Int × Int)) : Prop := ∀ (t : Nat) (p : Nat × Int × Int), ls[t]? = some p → p.2.1 = (t : Int) ∧ ∃ f k, p.2.2 = pl.num f ∧ f < m ∧ Valid pl f k ∧ Cl pl f k t
/-- the one served is blocked, if it is time -/
theorem t_blk {P : Params} {F : Nat} {ns : List Int} {o : Obj} {m : Nat} {pl : Pl} {hA : Nat → Nat} {b aP aL aR td sd N f : Nat} {S : Nat → Prop} {A : Nat → Ad} {Te : Nat → Nd} {c : Nat → Int} {ls' : List (Nat × Int × Int)} {turns : Int} {ρ : Mini.Loc} {σ4 : Store} {K : KS}
    (ok : PlOk m pl) (L : Has ρ (("told", .int (pl.num f)) :: ("one", .int f) :: ("rows", .obj aR) :: llocs b aP aL turns)) (hf0 : 0 < f) (hfm : f < m) (hfS : S f) (hcf : 0 ≤ c f)
    (h4 : Rs ns o m pl hA b aP aL td sd S A Te N c ls' σ4) (eR : σ4[aR]? = some (natsV [])) (hdn : ¬ domT A S sd aR) (hbl : b < aR ∧ aR ≠ aP ∧ aR ≠ aL)
    (hQ : ∀ ρ' τ rs T1, Has ρ' (("one", .int f) :: ("rows", .obj aR) :: llocs b aP aL turns) → Rs ns o m pl hA b aP aL td sd S A T1 N c ls' τ → τ[aR]? = some (natsV rs) → ((c f + 1 = pl.wa f ∧ rs = firsts pl f ∧ T1 = upd Te f { Te f with act := false }) ∨ (c f + 1 ≠ pl.wa f ∧ rs = [] ∧ T1 = Te)) → K.nxt ρ' τ)
    : WS (exec (XX P (F + 20)) [] (cbAt (trnB P) 5) ρ σ4) K := by
  rw [show cbAt (trnB P) 5 = _ by (conv => (lhs; reduce))]
  dsimp only [Int.reduceOfNat, Int.reduceNegSucc]
  unfold llocs at L
  have eP := h4.eP
  have eW := h4.pk.aW
  have hpf : pas c f = c f := if_neg (by omega)
  walk_at "m"
  refine i_list eP (by omega) (arr_get rfl hfm) ?_
  rw [hpf]
  walk_at "m"
  refine i_list eW (by omega) (arr_get rfl hfm) ?_
  walk_at "m"
  · rename_i hw
    have ho := h4.pt.o
    have hoa := h4.pt.oa
    refine mT ho (ciT_s P).block rfl hoa rfl ?_
    walk_at "m"
    have hn0 : pl.num f ≠ 0 := by have := ok.nm 0 f hf0 hfm; rw [ok.n0] at this; omega
    refine c_block (n := F + 19) h4.pt hfS hn0 fun σ5 t5 k5 => ?_
    have h5 := h4.keepD t5 k5
    have eR5 := k5 _ _ (fun q => hdn (.inl q)) eR
    have hkid : ∃ l, Kid m pl f l := (ok.kids f hfm).resolve_left fun q => by
      have := ok.wl f hfm q (by omega)
      have := hcf
      omega
    obtain ⟨l, kl⟩ := hkid
    walk_at "m"
    refine c_firsts h5.pk hfm (by rcases kl.hs with e | ⟨e, _⟩ <;> rw [e] <;> exact Nat.le_refl _) fun σ6 r x6 e6 hr6 => ?_
    have h7 := h5.ext x6
    have eR6 := x6 _ _ eR5
    have hfl : (firsts pl f).length ≤ 2 := by
      unfold firsts
      rcases kl.hs with e | ⟨e, _⟩ <;> rw [e] <;> split <;> simp
    have h8 := (h5.pk.h8 f hfm).2
    walk_at "m"
    refine lm_extend rfl e6 (by rcases hr6 with rfl | hr6; omega; have := lt_of_get eR5; omega) (by simp only [List.length_map, List.length_nil]; show _ < 100000; omega) ?_
    walk_at "m"
    refine hQ _ _ (firsts pl f) _ (by unfold llocs; walk_at "hasl") (h7.set eR6 hdn hbl.1 hbl.2.1 hbl.2.2) ?_ (.inl ⟨hw, rfl, rfl⟩)
    rw [get_set_eq eR6]; rfl
  · rename_i hw
    exact hQ _ _ [] _ (by unfold llocs; walk_at "hasl") h4 eR (.inr ⟨hw, rfl, rfl⟩)
/-- a turn of the line -/
theorem t_turn {P : Params} {F : Nat} {ns : List Int} {o : Obj} {m : Nat} {pl : Pl} {hA : Nat → Nat} {b aP aL td sd N : Nat} {S B : Nat → Prop} {A : Nat → Ad} {T : Nat → Nd} {c : Nat → Int} {ls : List (Nat × Int × Int)} {turns : Int} {ρ : Mini.Loc} {σ : Store} {K : KS}
    (ok : PlOk m pl) (L : Has ρ (("turn", .int (ls.length : Nat)) :: llocs b aP aL turns)) (g : GInv m pl S B c T) (hcn : Cnt S N) (hc0 : c 0 = ls.length) (hln : LineOk m pl ls) (hll : ls.length < 100) (h : Rs ns o m pl hA b aP aL td sd S A T N c ls σ)
    (hQ : ∀ ρ' σ' S' B' A' T' N' c' ls', Has ρ' (llocs b aP aL turns) → GInv m pl S' B' c' T' → Cnt S' N' → c' 0 = ls'.length → LineOk m pl ls' → ls'.length = ls.length + 1 → Rs ns o m pl hA b aP aL td sd S' A' T' N' c' ls' σ' → K.nxt ρ' σ')
    : WS (execs (XX P (F + 20)) [] (trnB P) ρ σ) K := by
  have h6 := show cbAt (trnB P) 6 = _ by (conv => (lhs; reduce))
  have h5 := show cbAt (trnB P) 5 = _ by (conv => (lhs; reduce))
  rw [show trnB P = _ by (conv => (lhs; reduce)), ← h6, ← h5]
  clear h6 h5
  have tc := @t_climb P F
  have tb := @t_blk P F
  generalize cbAt (trnB P) 6 = s6 at tc ⊢
  generalize cbAt (trnB P) 5 = s5 at tb ⊢
  dsimp only [Int.reduceOfNat, Int.reduceNegSucc]
  unfold llocs at L hQ tc tb
  have m9 := ok.m9
  obtain ⟨js, f, hp, hch, hne, hnb, li⟩ := g.turn ok m 0 (by omega) g.l.b0
  have hgt := hch.gt ok
  have hnd := hch.nodup ok
  have hend := hch.last hne
  have hfm := (hgt f hend).2.1
  have hfS := (hgt f hend).2.2.1
  have hf0 := (hgt f hend).1
  have hjl : js.length ≤ 9 := by
    have h1 := List.Nodup.length_le_of_subset (List.nodup_cons.mp hnd).2 (l₂ := List.range m) (fun y hy => List.mem_range.mpr (hgt y hy).2.1)
    rw [List.length_range] at h1
    omega
  have ho := h.pt.o
  have hoa := h.pt.oa
  walk_at "m"
  refine mT ho (ciT_s P).nxt rfl hoa rfl ?_
  walk_at "m"
  obtain ⟨n, hnF⟩ : ∃ n, F + 20 = n + js.length + 5 := ⟨F + 15 - js.length, by omega⟩
  have cn := fun Q hq => c_next (P := P) (n := n) (Q := Q) h.pt hp hnd (fun i hi => by
    rcases List.mem_cons.mp hi with rfl | hi
    · exact g.l.s0
    · exact (hgt i hi).2.2.1) ((g.l.ac 0 g.l.s0).mpr g.l.b0) hq
  rw [← hnF] at cn
  refine cn _ fun σ1 t1 k1 => ?_
  have h1 := h.keepD t1 k1
  clear cn h ho hoa k1 t1
  have f1 := h1.pk.nN
  rw [arr_ints] at f1
  walk_at "m"
  refine c_nin f1 ?_
  have hin : pl.num f ∈ (List.range m).map pl.num := List.mem_map.mpr ⟨f, List.mem_range.mpr hfm, rfl⟩
  rw [decide_eq_true hin]
  have eL := h1.eL
  unfold lineV at eL
  have hl0 : (ls.map fun p : Nat × Int × Int => AV.obj p.1).length = ls.length := List.length_map ..
  walk_at "m"
  · rw [hl0]; show _ < 100000; omega
  have h2 := h1.ext (τ := σ1 ++ [AO.tup [.int (ls.length : Nat), .int (pl.num f)]]) (Ext.refl _).app
  have h3 := h2.setL (ls' := ls ++ [(σ1.length, (ls.length : Int), pl.num f)]) (fun p hp => by
    rcases List.mem_append.mp hp with hp | hp
    · exact h2.eT p hp
    · rw [List.mem_singleton] at hp; subst hp; exact get_new)
  have hlv : lineV (ls ++ [(σ1.length, (ls.length : Int), pl.num f)]) = .list (ls.map (fun p => .obj p.1) ++ [.obj σ1.length]) := by unfold lineV; rw [List.map_append]; rfl
  rw [hlv] at h3
  clear h2 h1 f1 eL
  generalize (σ1 ++ [AO.tup [.int (ls.length : Nat), .int (pl.num f)]]).set aL (.list (ls.map (fun p => .obj p.1) ++ [.obj σ1.length])) = σ3 at *
  generalize hls' : ls ++ [(σ1.length, (ls.length : Int), pl.num f)] = ls' at *
  have hln' : LineOk m pl ls' := by
    intro t p htp
    rw [← hls'] at htp
    by_cases ht : t < ls.length
    · rw [List.getElem?_append_left ht] at htp; exact hln t p htp
    · rw [List.getElem?_append_right (by omega)] at htp
      have : t - ls.length = 0 := by
        refine Nat.not_lt.mp (fun q => ?_) |> Nat.le_zero.mp
        rw [List.getElem?_eq_none (by simp; omega)] at htp; cases htp
      rw [this] at htp
      have ht : t = ls.length := by omega
      subst ht
      cases htp
      refine ⟨rfl, f, c f, rfl, hfm, ⟨by omega, g.l.cn f, ?_⟩, ?_⟩
      · by_cases e : pl.hs f = []
        · exact .inl (ok.wl f hfm e (by omega))
        · right
          refine Int.not_le.mp fun q => hnb ((g.op f hfS).mpr ⟨e, q⟩)
      · have := hch.cl (r := c 0) (.top)
        rw [hc0] at this; exact this
  have hls1 : ls'.length = ls.length + 1 := by rw [← hls']; simp
  have f1 := h3.pk.nN
  rw [arr_ints] at f1
  walk_at "m"
  refine lm_index rfl (find_num (n := m) (f := f) hfm (fun i hi e => by have := ok.nm i f hi hfm; omega)) ?_
  have hx : Ext σ3 (σ3 ++ [AO.list []]) := (Ext.refl _).app
  have h4 := h3.ext hx
  have eR : (σ3 ++ [AO.list []])[σ3.length]? = some (natsV []) := get_new
  have hdn : ¬ domT A S sd σ3.length := fun q => Nat.lt_irrefl _ (h3.pt.dom_lt q)
  have hbl : b < σ3.length ∧ σ3.length ≠ aP ∧ σ3.length ≠ aL := by
    have := lt_of_get h3.eP
    have := lt_of_get h3.eL
    have := h3.dP
    omega
  walk_at "m"
  generalize σ3.length = aR at *
  clear h3 f1 hx
  generalize σ3 ++ [AO.list []] = σ4 at *
  refine tb (turns := turns) (ls' := ls') (c := c) ok (by walk_at "hasl") hf0 hfm hfS (g.l.cn f) h4 eR hdn hbl ?_
  · clear h4 eR
    intro ρ5 τ rs T1 L5 h5 e5 hcase
    have hrs : rs.Nodup ∧ (∀ x ∈ rs, pl.pa x = f) ∧ rs.length ≤ 2 := by
      rcases hcase with ⟨hw, rfl, _⟩ | ⟨_, rfl, _⟩
      · have hkid : ∃ l, Kid m pl f l := (ok.kids f hfm).resolve_left fun q => by
          have := ok.wl f hfm q (by omega)
          have := g.l.cn f
          omega
        obtain ⟨l, kl⟩ := hkid
        refine ⟨kl.firsts.1, fun x hx => ?_, ?_⟩
        · rcases (kl.firsts.2 x).mp hx with rfl | ⟨rfl, _⟩
          · exact kl.pj
          · exact kl.pj1
        · unfold firsts
          rcases kl.hs with e | ⟨e, _⟩ <;> rw [e] <;> split <;> simp
      · exact ⟨List.nodup_nil, (fun x hx => by cases hx), Nat.zero_le _⟩
    unfold llocs at L5
    refine s_cut (fun ρ τ => ∃ rs', Has ρ (("rows", .obj aR) :: llocs b aP aL turns) ∧ Rs ns o m pl hA b aP aL td sd S A T1 N (bumps c js) ls' τ ∧ τ[aR]? = some (natsV rs') ∧ rs'.Nodup ∧ (∀ x, x ∈ rs' ↔ x ∈ rs ∨ ∃ j ∈ js, 0 < pl.sk (pl.pa j) ∧ j % 2 = 1 ∧ c j = pl.sk (pl.pa j) ∧ x = j + 1)) ?_ ?_
    · exact tc (i := 0) ok L5 hch hnb (fun j hj => g.l.sp j (hgt j hj).2.2.1 (by have := (hgt j hj).1; omega)) h5 e5 ⟨hdn, hbl⟩ ⟨hrs.1, hrs.2.1⟩ hrs.2.2 (fun j hj => ⟨(hgt j hj).1, (hgt j hj).2.1⟩) (List.nodup_cons.mp hnd).2 fun ρ' σ' rs' a1 a2 a3 a4 a5 => ⟨rs', a1, a2, a3, a4, a5⟩
    · rintro ρ6 τ6 ⟨rs', L6, h6, e6, n6, m6⟩
      unfold llocs at L6
      have htick : LInv m pl S B (tick c js) (eff pl.num T 0 js) := by
        have h0 : (0 : Nat) ∉ js := fun q => by have := (hgt 0 q).1; omega
        have : tick c js = upd (bumps c js) 0 (c 0 + 1) := by
          funext y; unfold tick bumps upd
          by_cases e : y = 0
          · subst e; simp [h0]
          · simp [e]
        rw [this]
        exact li.tick ok (by rw [hc0]; omega)
      have htp : arr m (pas (bumps c js)) = arr m (pas (tick c js)) := by
        refine arr_congr fun y _ => ?_
        unfold pas tick bumps upd
        by_cases e : y = 0
        · rw [if_pos e, if_pos e]
        · rw [if_neg e, if_neg e, if_neg e]
      have ht0 : tick c js 0 = ls'.length := by
        have h0 : (0 : Nat) ∉ js := fun q => by have := (hgt 0 q).1; omega
        unfold tick bumps
        rw [if_neg h0, upd_eq, hc0, hls1]; rfl
      obtain ⟨B', hlay⟩ : ∃ B', LayInv m pl S B' (tick c js) T1 rs' := by
        refine ⟨fun p => B p ∨ (p = f ∧ c f + 1 = pl.wa f), g.after ok hch hne hnb ?_ (fun p => Iff.rfl) n6 fun x => ?_⟩
        · rcases hcase with ⟨hw, _, rfl⟩ | ⟨hw, _, rfl⟩
          · have : (fun p => B p ∨ (p = f ∧ c f + 1 = pl.wa f)) = fun p => B p ∨ p = f := by
              funext p; simp [hw]
            rw [this]
            refine htick.block ok hfS hnb fun q => ?_
            have := ok.wl f hfm q (by omega)
            have := g.l.cn f
            omega
          · have : (fun p => B p ∨ (p = f ∧ c f + 1 = pl.wa f)) = B := by
              funext p; simp [hw]
            rw [this]; exact htick
        · rw [m6]
          unfold RowOf
          rcases hcase with ⟨hw, rfl, _⟩ | ⟨hw, rfl, _⟩
          · simp [hw]
          · simp [hw]
      walk_at "m"
      refine c_lay (n := F + 13) ok hlay h6.pk h6.pt (fun a q => (h6.hd a q).1) e6 hcn fun σ7 S' B'' A' T' N' g7 t7 c7 k7 d7 => ?_
      have h7 := h6.move t7 k7 d7
      walk_at "m"
      refine hQ _ _ _ _ _ _ _ _ ls' (by walk_at "hasl") g7 c7 ht0 hln' hls1 ⟨h7.pk, h7.pt, h7.hd, ?_, h7.eL, h7.eT, h7.dP⟩
      rw [← htp]; exact h7.eP

theorem get_new' {σ : Store} {n : Nat} {o : AO} (h : σ.length = n) : (σ ++ [o])[n]? = some o := by subst h; exact get_new
noncomputable def frkB (P : Params) : CB := forBody (cbAt (lawB P) 4)
def plocs (turns : Int) : Mini.Loc := [("script", .obj 0), ("turns", .int turns), ("numbers", .obj 1), ("parents", .obj 2), ("weights", .obj 3), ("wholes", .obj 4), ("waits", .obj 6), ("skips", .obj 7), ("heirs", .obj 9), ("tips", .obj 11)]
theorem t_add {P : Params} {F : Nat} {ns : List Int} {o : Obj} {m node al : Nat} {pl : Pl} {hA : Nat → Nat} {tips : List Nat} {num w n turns : Int} {xs : List AV} {ρ : Mini.Loc} {σ : Store} {K : KS}
    (L : Has ρ (("number", .int num) :: ("weight", .int w) :: ("node", .int node) :: ("whole", .int n) :: plocs turns)) (pk : Pk ns o m pl hA σ.length σ) (hn : node < m) (hm : m ≤ 9) (htl : tips.length ≤ 20) (hhl : (pl.hs node).length ≤ 3) (e11 : σ[11]? = some (natsV tips))
    (ea : σ[al]? = some (.list xs)) (ha : 12 ≤ al ∧ ∀ i, i < m → hA i ≠ al)
    (hQ : ∀ σ', Pk ns o (m + 1) (pl.add m node num w n) (upd hA m σ.length) σ'.length σ' → σ'[11]? = some (natsV (tips ++ [m])) → σ'[al]? = some (.list xs) → (∀ (a : Nat) (ys : List AV), σ[a]? = some (.tup ys) → σ'[a]? = some (.tup ys)) → K.nxt ρ σ')
    : WS (execs (XX P (F + 20)) [] (forBody (cbAt (frkB P) 10)) ρ σ) K := by
  rw [show forBody (cbAt (frkB P) 10) = _ by (conv => (lhs; reduce))]
  dsimp only [Int.reduceOfNat, Int.reduceNegSucc]
  unfold plocs at L
  obtain ⟨f0, f1, f2, f3, f4, f6, f7, f9, fR, f8, fi, fb⟩ := pk
  have hal : ∀ f : Nat → Int, (arr m f).length = m := fun f => arr_len
  have hrl : ∀ f : Nat → AV, ((List.range m).map f).length = m := fun f => by simp
  have hnl : ∀ l : List Nat, (l.map fun (j : Nat) => AV.int (j : Int)).length = l.length := fun l => List.length_map ..
  have h8 := (f8 node hn).1
  have hne := ha.2 node hn
  have eN := fR node hn
  walk_at "m"
  · rw [hnl]; show _ < 100000; omega
  rw [hal]
  refine i_list (xs := (List.range m).map fun i => .obj (hA i)) (by walk_at "sget") (by omega) (rng_get rfl hn) ?_
  have eN1 : (σ.set 11 (.list (tips.map (fun (j : Nat) => AV.int (j : Int)) ++ [.int m])))[hA node]? = some (natsV (pl.hs node)) := get_set_ne (by omega) eN
  walk_at "m"
  · rw [hnl]; show _ < 100000; omega
  rw [hal]
  have n1 : hA node ≠ 1 := by omega
  have n2 : hA node ≠ 2 := by omega
  have n3 : hA node ≠ 3 := by omega
  have n4 : hA node ≠ 4 := by omega
  have n6 : hA node ≠ 6 := by omega
  have n7 : hA node ≠ 7 := by omega
  have n9 : hA node ≠ 9 := by omega
  walk_at "m"
  all_goals try (first | (rw [hal]; show _ < 100000; omega) | (rw [hrl]; show _ < 100000; omega) | (show m < 100000; omega) | (show 0 < 100000; omega))
  simp only [List.length_set]
  rw [hal pl.num]
  have hpa : arr m (fun i => ((pl.pa i : Nat) : Int)) ++ [.int (node : Int)] = arr (m + 1) (fun i => ((upd pl.pa m node i : Nat) : Int)) := by
    rw [arr_push]; refine arr_congr fun i _ => ?_
    unfold upd; split <;> rfl
  refine hQ _ ⟨?_, ?_, ?_, ?_, ?_, ?_, ?_, ?_, fun i hi => ?_, fun i hi => ?_, fun i j hi hj hij => ?_, ?_⟩ ?_ ?_ fun a ys e => ?_
  · walk_at "sget"
  · rw [show (pl.add m node num w n).num = upd pl.num m num from rfl, ← arr_push]; walk_at "sget"
  · rw [show (pl.add m node num w n).pa = upd pl.pa m node from rfl, ← hpa]; walk_at "sget"
  · rw [show (pl.add m node num w n).wt = upd pl.wt m w from rfl, ← arr_push]; walk_at "sget"
  · rw [show (pl.add m node num w n).wh = upd pl.wh m n from rfl, ← arr_push]; walk_at "sget"
  · rw [show (pl.add m node num w n).wa = upd pl.wa m (-1) from rfl, ← arr_push]; walk_at "sget"
  · rw [show (pl.add m node num w n).sk = upd pl.sk m 0 from rfl, ← arr_push]; walk_at "sget"
  · have : (List.range (m + 1)).map (fun i => AV.obj (upd hA m σ.length i)) = (List.range m).map (fun i => AV.obj (hA i)) ++ [.obj σ.length] := by
      rw [rng_push]; apply List.map_congr_left; intro i _; unfold upd; split <;> rfl
    rw [this]; walk_at "sget"
  · have hadd : (pl.add m node num w n).hs = upd (upd pl.hs node (pl.hs node ++ [m])) m [] := rfl
    rw [hadd]
    rcases Nat.lt_or_ge i m with hi | hi'
    · rw [upd_ne (by omega : i ≠ m), upd_ne (by omega : i ≠ m)]
      have hi8 := (f8 i hi).1
      have hil := (f8 i hi).2
      by_cases e : i = node
      · subst e
        rw [upd_eq]
        have : natsV (pl.hs i ++ [m]) = .list ((pl.hs i).map (fun (j : Nat) => AV.int (j : Int)) ++ [.int (m : Int)]) := by simp
        rw [this]
        walk_at "sget"
      · rw [upd_ne e]
        have q := fi node i hn hi (Ne.symm e)
        have hRi := fR i hi
        walk_at "sget"
    · obtain rfl : i = m := by omega
      rw [upd_eq, upd_eq]
      refine get_set_ne (by omega) ?_
      exact get_new' (by simp only [List.length_set])
  · simp only [List.length_set, List.length_append, List.length_cons, List.length_nil]
    rcases Nat.lt_or_ge i m with hi | hi'
    · rw [upd_ne (by omega : i ≠ m)]
      have := f8 i hi
      omega
    · obtain rfl : i = m := by omega
      rw [upd_eq]; omega
  · rcases Nat.lt_or_ge i m with hi | hi' <;> rcases Nat.lt_or_ge j m with hj | hj'
    · rw [upd_ne (by omega : i ≠ m), upd_ne (by omega : j ≠ m)]; exact fi i j hi hj hij
    · obtain rfl : j = m := by omega
      rw [upd_eq, upd_ne (by omega : i ≠ j)]; have := f8 i hi; omega
    · obtain rfl : i = m := by omega
      rw [upd_eq, upd_ne (by omega : j ≠ i)]; have := f8 j hj; omega
    · omega
  · simp only [List.length_set, List.length_append, List.length_cons, List.length_nil]; omega
  · have : natsV (tips ++ [m]) = .list (tips.map (fun (j : Nat) => AV.int (j : Int)) ++ [.int (m : Int)]) := by simp
    rw [this]
    walk_at "sget"
  · have hal1 := ha.1
    walk_at "sget"
  · have q1 := ne_kind e11 e rfl
    have q2 := ne_kind eN e rfl
    have q3 := ne_kind f1 e rfl
    have q4 := ne_kind f2 e rfl
    have q5 := ne_kind f3 e rfl
    have q6 := ne_kind f4 e rfl
    have q7 := ne_kind f6 e rfl
    have q8 := ne_kind f7 e rfl
    have q9 := ne_kind f9 e rfl
    exact get_set_ne q9 (get_app (get_set_ne q8 (get_set_ne q7 (get_set_ne q6 (get_set_ne q5 (get_set_ne q4 (get_set_ne q3 (get_set_ne q2 (get_set_ne q1 e)))))))))

theorem t_wait {P : Params} {F : Nat} {ns : List Int} {o : Obj} {m node : Nat} {pl : Pl} {hA : Nat → Nat} {place : Int} {ρ : Mini.Loc} {σ : Store} {K : KS} (hns : ns.length ≤ 63)
    (L : Has ρ [("script", .obj 0), ("node", .int node), ("place", .int place), ("waits", .obj 6)]) (pk : Pk ns o m pl hA σ.length σ) (hn : node < m) (hp : 0 ≤ place) (w0 : pl.wa 0 = 0)
    (hQ : ∀ v σ', 0 ≤ v → v ≤ 3 → (node = 0 → v = 0) → Pk ns o m { pl with wa := upd pl.wa node v } hA σ'.length σ' → σ'[11]? = σ[11]? → K.nxt ρ σ')
    : WS (exec (XX P (F + 20)) [] (cbAt (frkB P) 2) ρ σ) K := by
  rw [show cbAt (frkB P) 2 = _ by (conv => (lhs; reduce))]
  dsimp only [Int.reduceOfNat, Int.reduceNegSucc]
  have f0 := pk.sc
  have f6 := pk.aW
  have hal : ∀ f : Nat → Int, (arr m f).length = m := fun f => arr_len
  walk_at "m"
  · refine c_pick f0 hns (by omega) (by omega) fun v a1 a2 => ?_
    walk_at "m"
    refine x_list f6 (by omega) (by rw [hal]; omega) ?_
    rw [arr_set rfl hn]
    exact hQ v _ a1 (by omega) (fun e => by omega) pk.setA (List.getElem?_set_ne (by decide))
  · have e : node = 0 := by omega
    subst e
    refine hQ 0 σ (by omega) (by omega) (fun _ => rfl) ?_ rfl
    have : upd pl.wa 0 0 = pl.wa := by funext i; unfold upd; split
                                       · rename_i e; rw [e, w0]
                                       · rfl
    rw [this]; exact pk
theorem t_share {P : Params} {F : Nat} {ns : List Int} {o : Obj} {m node bits : Nat} {pl : Pl} {hA : Nat → Nat} {place sh fork turns : Int} {ρ : Mini.Loc} {σ : Store} {K : KS} (hns : ns.length ≤ 63)
    (L : Has ρ (("share", .int sh) :: ("fork", .int fork) :: ("place", .int place) :: ("node", .int node) :: ("bits", .int bits) :: ("whole", .int (2 * 2 ^ bits)) :: plocs turns)) (pk : Pk ns o m pl hA σ.length σ) (hn : node < m) (hp : 0 ≤ place) (hb : bits ≤ 7) (h1 : 1 ≤ sh) (h2 : sh + 1 ≤ 2 * 2 ^ bits) (hs : 0 ≤ pl.sk node ∧ pl.sk node ≤ 3)
    (hQ : ∀ ρ' a, Pair a (2 * 2 ^ bits - a) (2 * 2 ^ bits) (pl.sk node) → Has ρ' (("share", .int a) :: ("fork", .int fork) :: ("place", .int place) :: ("node", .int node) :: ("whole", .int (2 * 2 ^ bits)) :: plocs turns) → K.nxt ρ' σ)
    : WS (exec (XX P (F + 20)) [] (cbAt (frkB P) 7) ρ σ) K := by
  rw [show cbAt (frkB P) 7 = _ by (conv => (lhs; reduce))]
  dsimp only [Int.reduceOfNat, Int.reduceNegSucc]
  unfold plocs at L hQ
  have f0 := pk.sc
  have f7 := pk.sS
  obtain ⟨p1, p2, p3⟩ := pair_pow hb
  have hsh : ∀ t : Nat, t ≤ bits → 1 ≤ (1 : Int) * 2 ^ t ∧ (1 : Int) * 2 ^ t + 1 ≤ 2 * 2 ^ bits ∧ ∃ c : Int, 256 = 1 * 2 ^ t * c := fun t ht => share_pow hb ht
  generalize (2 : Int) * 2 ^ bits = n at *
  walk_at "m"
  refine i_list f7 (by omega) (arr_get rfl hn) ?_
  walk_at "m"
  · refine c_pick f0 hns (by omega) (by omega) fun v a1 a2 => ?_
    refine b_shl ⟨a1, by omega⟩ ⟨by omega, by omega⟩ ?_
    obtain ⟨q1, q2, q3⟩ := hsh v.toNat (by omega)
    generalize (1 : Int) * 2 ^ v.toNat = a at *
    walk_at "m"
    exact hQ _ a ⟨q1, by omega, by omega, p3, hs.1, hs.2, fun _ => q3⟩ (by walk_at "hasl")
  · rename_i h0
    exact hQ _ sh ⟨h1, by omega, by omega, p3, hs.1, hs.2, fun q => absurd q h0⟩ (by walk_at "hasl")
theorem t_rev {P : Params} {F : Nat} {ns : List Int} {o : Obj} {m node : Nat} {pl : Pl} {hA : Nat → Nat} {place : Int} {ρ : Mini.Loc} {σ : Store} {K : KS} (hns : ns.length ≤ 63)
    (L : Has ρ [("script", .obj 0), ("node", .int node), ("place", .int place), ("skips", .obj 7), ("heirs", .obj 9)]) (pk : Pk ns o m pl hA σ.length σ) (hn : node < m) (hp : 0 ≤ place)
    (hQ : ∀ (r : Bool) σ', (r = true → pl.sk node = 0) → Pk ns o m (if r then pl.rev node else pl) hA σ'.length σ' → σ'[11]? = σ[11]? → K.nxt ρ σ')
    : WS (exec (XX P (F + 20)) [] (cbAt (frkB P) 11) ρ σ) K := by
  rw [show cbAt (frkB P) 11 = _ by (conv => (lhs; reduce))]
  dsimp only [Int.reduceOfNat, Int.reduceNegSucc]
  have f0 := pk.sc
  have f7 := pk.sS
  have f9 := pk.hH
  have fR := pk.hR node hn
  have h8 := (pk.h8 node hn).1
  walk_at "m"
  refine i_list f7 (by omega) (arr_get rfl hn) ?_
  walk_at "m"
  · rename_i hs
    refine c_pick f0 hns (by omega) (by omega) fun v a1 a2 => ?_
    walk_at "m"
    · refine i_list f9 (by omega) (rng_get rfl hn) ?_
      walk_at "m"
      have := pk.setR hn
      rw [← List.map_reverse]
      refine hQ true _ (fun _ => hs) (by rw [if_pos rfl]; exact this) (List.getElem?_set_ne (by omega))
    · exact hQ false _ (fun q => by cases q) (by rw [if_neg (by decide)]; exact pk) rfl
  · exfalso; rename_i h1 h2; exact h1 h2
  · exact hQ false _ (fun q => by cases q) (by rw [if_neg (by decide)]; exact pk) rfl

theorem t_pairs {P : Params} {F : Nat} {ns : List Int} {o : Obj} {m node : Nat} {pl : Pl} {hA : Nat → Nat} {tips : List Nat} {lo hi a n place turns : Int} {ρ : Mini.Loc} {σ : Store} {K : KS}
    (L : Has ρ (("low", .int lo) :: ("high", .int hi) :: ("share", .int a) :: ("place", .int place) :: ("node", .int node) :: ("whole", .int n) :: plocs turns)) (pk : Pk ns o m pl hA σ.length σ) (hn : node < m) (hm : m ≤ 8) (htl : tips.length ≤ 10) (hh : pl.hs node = []) (e11 : σ[11]? = some (natsV tips))
    (hQ : ∀ ρ' σ' hA', Has ρ' (("place", .int place) :: ("node", .int node) :: plocs turns) → Pk ns o (m + 2) ((pl.add m node lo a n).add (m + 1) node hi (n - a) n) hA' σ'.length σ' → σ'[11]? = some (natsV (tips ++ [m] ++ [m + 1])) → K.nxt ρ' σ')
    : WS (exec (XX P (F + 20)) [] (cbAt (frkB P) 10) ρ σ) K := by
  have hS := show forBody (cbAt (frkB P) 10) = _ by (conv => (lhs; reduce))
  rw [show cbAt (frkB P) 10 = _ by (conv => (lhs; reduce)), ← hS]
  clear hS
  have ta := @t_add P F
  generalize forBody (cbAt (frkB P) 10) = sb at ta ⊢
  dsimp only [Int.reduceOfNat, Int.reduceNegSucc]
  unfold plocs at L hQ ta
  walk_at "m"
  have hlen : (σ ++ [AO.tup [.int lo, .int a]]).length = σ.length + 1 := by simp
  have hlen2 : (σ ++ [AO.tup [.int lo, .int a]] ++ [AO.tup [.int hi, .int (n - a)]]).length = σ.length + 2 := by simp
  rw [hlen, hlen2]
  have t1 : (σ ++ [AO.tup [.int lo, .int a]] ++ [AO.tup [.int hi, .int (n - a)]] ++ [AO.list [.obj σ.length, .obj (σ.length + 1)]])[σ.length]? = some (.tup [.int lo, .int a]) := get_app (get_app get_new)
  have t2 : (σ ++ [AO.tup [.int lo, .int a]] ++ [AO.tup [.int hi, .int (n - a)]] ++ [AO.list [.obj σ.length, .obj (σ.length + 1)]])[σ.length + 1]? = some (.tup [.int hi, .int (n - a)]) := get_app (get_new' hlen)
  have t3 : (σ ++ [AO.tup [.int lo, .int a]] ++ [AO.tup [.int hi, .int (n - a)]] ++ [AO.list [.obj σ.length, .obj (σ.length + 1)]])[σ.length + 2]? = some (.list [.obj σ.length, .obj (σ.length + 1)]) := get_new' hlen2
  have hx : Ext σ (σ ++ [AO.tup [.int lo, .int a]] ++ [AO.tup [.int hi, .int (n - a)]] ++ [AO.list [.obj σ.length, .obj (σ.length + 1)]]) := (Ext.refl σ).app.app.app
  have hll : (σ ++ [AO.tup [.int lo, .int a]] ++ [AO.tup [.int hi, .int (n - a)]] ++ [AO.list [.obj σ.length, .obj (σ.length + 1)]]).length = σ.length + 3 := by simp
  generalize σ ++ [AO.tup [.int lo, .int a]] ++ [AO.tup [.int hi, .int (n - a)]] ++ [AO.list [.obj σ.length, .obj (σ.length + 1)]] = σ2 at *
  have hb12 := pk.b12
  have pk2 : Pk ns o m pl hA σ2.length σ2 := by
    obtain ⟨f0, f1, f2, f3, f4, f6, f7, f9, fR, f8, fi, fb⟩ := pk
    exact ⟨hx _ _ f0, hx _ _ f1, hx _ _ f2, hx _ _ f3, hx _ _ f4, hx _ _ f6, hx _ _ f7, hx _ _ f9, fun i hi => hx _ _ (fR i hi), fun i hi => ⟨(f8 i hi).1, by have := (f8 i hi).2; omega⟩, fi, by omega⟩
  have e112 := hx _ _ e11
  have h8 := pk.h8
  refine s_loop2 (v0 := .obj σ.length) (v1 := .obj (σ.length + 1)) (by show 3 ≤ 50000; omega) (nx_lst t3 rfl) ?_
  walk_at "m"
  refine ta (turns := turns) (by walk_at "hasl") pk2 hn (by omega) (by omega) (by rw [hh]; exact Nat.zero_le _) e112 t3 ⟨by omega, fun i hi => by have := (h8 i hi).2; omega⟩ fun σ3 pk3 e113 t33 htt => ?_
  have t23 := htt _ _ t2
  have hl3 : σ2.length ≤ σ3.length := by
    have h0 := (pk3.h8 m (by omega)).2
    rw [upd_eq] at h0
    omega
  refine ⟨nx_lst t33 rfl, ?_⟩
  walk_at "m"
  refine ta (turns := turns) (by walk_at "hasl") pk3 (by omega) (by omega) (by simp; omega) ?_ e113 t33 ⟨by omega, fun i hi => ?_⟩ fun σ4 pk4 e114 t34 htt4 => ?_
  · have : (pl.add m node lo a n).hs node = [m] := by
      show upd (upd pl.hs node (pl.hs node ++ [m])) m [] node = _
      rw [upd_ne (by omega), upd_eq, hh]; rfl
    rw [this]; show 1 ≤ 3; omega
  · rcases Nat.lt_or_ge i m with h | h
    · rw [upd_ne (by omega : i ≠ m)]; have := (h8 i h).2; omega
    · have e : i = m := by omega
      rw [e, upd_eq]; omega
  refine ⟨nx_lstE t34 (Nat.le_refl _), ?_⟩
  exact hQ _ _ _ (by walk_at "hasl") pk4 e114

/-- what holds ahead of fork i -/
structure Fk (ns : List Int) (o : Obj) (i : Nat) (pl : Pl) (hA : Nat → Nat) (tips : List Nat) (σ : Store) : Prop where
  ok : PlOk (2 * i + 1) pl
  pk : Pk ns o (2 * i + 1) pl hA σ.length σ
  e11 : σ[11]? = some (natsV tips)
  nd : tips.Nodup
  lt : ∀ t ∈ tips, t < 2 * i + 1 ∧ pl.hs t = []
  ne : tips ≠ []
  ln : tips.length ≤ i + 1
  nb : ∀ j, j < 2 * i + 1 → pl.num j ≤ 8 * i
  h0 : (i = 0 ∧ tips = [0]) ∨ (0 < i ∧ pl.hs 0 ≠ [])
theorem t_fork {P : Params} {F : Nat} {ns : List Int} {o : Obj} {i : Nat} {pl : Pl} {hA : Nat → Nat} {tips : List Nat} {turns : Int} {ρ : Mini.Loc} {σ : Store} {K : KS} (hns : ns.length ≤ 63)
    (L : Has ρ (("fork", .int i) :: plocs turns)) (h : Fk ns o i pl hA tips σ) (hi : i ≤ 3)
    (hQ : ∀ ρ' σ' pl' hA' tips', Has ρ' (plocs turns) → Fk ns o (i + 1) pl' hA' tips' σ' → K.nxt ρ' σ')
    : WS (execs (XX P (F + 20)) [] (frkB P) ρ σ) K := by
  have h2 := show cbAt (frkB P) 2 = _ by (conv => (lhs; reduce))
  have h7 := show cbAt (frkB P) 7 = _ by (conv => (lhs; reduce))
  have h10 := show cbAt (frkB P) 10 = _ by (conv => (lhs; reduce))
  have h11 := show cbAt (frkB P) 11 = _ by (conv => (lhs; reduce))
  rw [show frkB P = _ by (conv => (lhs; reduce)), ← h2, ← h7, ← h10, ← h11]
  clear h2 h7 h10 h11
  have tw := @t_wait P F
  have ts := @t_share P F
  have tp := @t_pairs P F
  have tr := @t_rev P F
  generalize cbAt (frkB P) 2 = s2 at tw ⊢
  generalize cbAt (frkB P) 7 = s7 at ts ⊢
  generalize cbAt (frkB P) 10 = s10 at tp ⊢
  generalize cbAt (frkB P) 11 = s11 at tr ⊢
  dsimp only [Int.reduceOfNat, Int.reduceNegSucc]
  unfold plocs at L hQ ts tp
  obtain ⟨ok, pk, e11, nd, lt, ne, ln, nb, h0⟩ := h
  have f0 := pk.sc
  have hnl : ∀ l : List Nat, (l.map fun (j : Nat) => AV.int (j : Int)).length = l.length := fun l => List.length_map ..
  have htl : 0 < tips.length := List.length_pos_iff.mpr ne
  walk_at "m"
  rw [hnl]
  refine c_pick f0 hns (by omega) (by omega) fun v a1 a2 => ?_
  walk_at "m"
  have hv : v.toNat < tips.length := by omega
  obtain ⟨node, hnode⟩ : ∃ n, tips[v.toNat] = n := ⟨_, rfl⟩
  have hget : tips[v.toNat]? = some node := by rw [List.getElem?_eq_getElem hv, hnode]
  have hmem : node ∈ tips := List.mem_of_getElem? hget
  obtain ⟨hn, hh⟩ := lt node hmem
  refine lm_pop (v := .int (node : Int)) rfl a1 (nats_get hget) ?_
  have hers : (tips.map fun (j : Nat) => AV.int (j : Int)).eraseIdx v.toNat = (tips.eraseIdx v.toNat).map fun (j : Nat) => AV.int (j : Int) := map_eraseIdx _ _ _
  rw [hers]
  have hte : (tips.eraseIdx v.toNat).length + 1 = tips.length := by rw [List.length_eraseIdx, if_pos hv]; omega
  have hperm := perm_eraseIdx hget
  have hnd2 := List.nodup_cons.mp (hperm.nodup_iff.mp nd)
  have pk2 : Pk ns o (2 * i + 1) pl hA (σ.set 11 (natsV (tips.eraseIdx v.toNat))).length (σ.set 11 (natsV (tips.eraseIdx v.toNat))) := by
    obtain ⟨f0, f1, f2, f3, f4, f6, f7, f9, fR, f8, fi, fb⟩ := pk
    exact ⟨get_set_ne (by decide) f0, get_set_ne (by decide) f1, get_set_ne (by decide) f2, get_set_ne (by decide) f3, get_set_ne (by decide) f4, get_set_ne (by decide) f6, get_set_ne (by decide) f7, get_set_ne (by decide) f9, fun i hi => get_set_ne (by have := f8 i hi; omega) (fR i hi), by rw [List.length_set]; exact f8, fi, by rw [List.length_set]; exact fb⟩
  have e112 : (σ.set 11 (natsV (tips.eraseIdx v.toNat)))[11]? = some (natsV (tips.eraseIdx v.toNat)) := get_set_eq e11
  clear pk e11 f0
  walk_at "m"
  generalize σ.set 11 (natsV (tips.eraseIdx v.toNat)) = σ2 at *
  refine tw hns (place := 2 + 8 * (i : Int)) (by walk_at "hasl") pk2 hn (by omega) ok.w0 fun w σ3 w1 w2 w3 pk3 e113 => ?_
  rw [e112] at e113
  clear pk2 e112
  have f0 := pk3.sc
  walk_at "m"
  refine c_pick f0 hns (by omega) (by omega) fun bv b1 b2 => ?_
  obtain ⟨bits, rfl⟩ : ∃ n : Nat, bv = n := ⟨bv.toNat, by omega⟩
  walk_at "m"
  refine b_shl ⟨by omega, by omega⟩ ⟨by omega, by omega⟩ ?_
  rw [Int.toNat_natCast]
  obtain ⟨p1, p2, p3⟩ := pair_pow (bits := bits) (by omega)
  walk_at "m"
  refine c_pick f0 hns (by omega) (by omega) fun sh s1 s2 => ?_
  walk_at "m"
  refine c_pick f0 hns (by omega) (by omega) fun sk k1 k2 => ?_
  have f7 := pk3.sS
  have hal : ∀ f : Nat → Int, (arr (2 * i + 1) f).length = 2 * i + 1 := fun f => arr_len
  walk_at "m"
  refine x_list f7 (by omega) (by rw [hal]; omega) ?_
  rw [arr_set rfl hn]
  have pk4 : Pk ns o (2 * i + 1) (pl.setN node w sk) hA _ _ := pk3.setS (node := node) (v := sk)
  have e114 : (σ3.set 7 (.list (arr (2 * i + 1) (upd pl.sk node sk))))[11]? = some (natsV (tips.eraseIdx v.toNat)) := get_set_ne (by decide) e113
  walk_at "m"
  clear pk3 f0 f7 e113
  generalize σ3.set 7 (.list (arr (2 * i + 1) (upd pl.sk node sk))) = σ4 at *
  have hsk : (pl.setN node w sk).sk node = sk := upd_eq
  refine ts hns (sh := 1 + sh) (fork := (i : Int)) (place := 2 + 8 * (i : Int)) (node := node) (bits := bits) (turns := turns) (by walk_at "hasl") pk4 hn (by omega) (by omega) (by omega) (by omega) (by rw [hsk]; omega) fun ρ5 a hpair L5 => ?_
  rw [hsk] at hpair
  have f0 := pk4.sc
  walk_at "m"
  refine c_pick f0 hns (by omega) (by omega) fun lw l1 l2 => ?_
  walk_at "m"
  refine c_pick f0 hns (by omega) (by omega) fun hw h1 h2 => ?_
  walk_at "m"
  refine tp (turns := turns) (place := 2 + 8 * (i : Int)) (lo := 1 + 8 * (i : Int) + lw) (hi := 1 + 8 * (i : Int) + lw + 1 + hw) (a := a) (n := 2 * 2 ^ bits) (tips := tips.eraseIdx v.toNat) (by walk_at "hasl") pk4 hn (by omega) (by omega) hh e114 fun ρ6 σ6 hA' L6 pk6 e116 => ?_
  walk_at "m"
  refine tr hns (place := 2 + 8 * (i : Int)) (node := node) (by walk_at "hasl") pk6 (by omega) (by omega) fun r σ7 hr pk7 e117 => ?_
  rw [e116] at e117
  have hr : r = true → sk = 0 := fun q => by
    have := hr q
    rw [← this]
    show sk = upd (upd (upd pl.sk node sk) (2 * i + 1) 0) (2 * i + 1 + 1) 0 node
    rw [upd_ne (by omega), upd_ne (by omega), upd_eq]
  have okf := ok.fork (r := r) (node := node) (v := w) (s := sk) (a := a) (b := 2 * 2 ^ bits - a) (n := 2 * 2 ^ bits) (low := 1 + 8 * (i : Int) + lw) (high := 1 + 8 * (i : Int) + lw + 1 + hw) (by omega) (by omega) hn hh ⟨w1, w2⟩ w3 hpair (fun j hj => by have := nb j hj; omega) (by omega) hr
  obtain ⟨g1, g2, g3, g4, g5, g6, g7⟩ := fork_hs (v := w) (s := sk) (a := a) (b := 2 * 2 ^ bits - a) (n := 2 * 2 ^ bits) (low := 1 + 8 * (i : Int) + lw) (high := 1 + 8 * (i : Int) + lw + 1 + hw) (r := r) hn hh _ rfl
  have hlt : ∀ t ∈ tips.eraseIdx v.toNat, t < 2 * i + 1 ∧ pl.hs t = [] ∧ t ≠ node := fun t ht => by
    have := lt t (hperm.mem_iff.mpr (List.mem_cons_of_mem _ ht))
    exact ⟨this.1, this.2, fun e => hnd2.1 (e ▸ ht)⟩
  walk_at "m"
  refine hQ _ _ _ hA' _ (by walk_at "hasl") ⟨okf, pk7, e117, tips_nodup hnd2.2 fun t ht => (hlt t ht).1, fun t ht => ?_, by simp, by simp; omega, fun j hj => ?_, ?_⟩
  · rw [List.mem_append, List.mem_append, List.mem_singleton, List.mem_singleton] at ht
    rcases ht with (ht | rfl) | rfl
    · obtain ⟨q1, q2, q3⟩ := hlt t ht
      exact ⟨by omega, by rw [g1 t q3 q1]; exact q2⟩
    · exact ⟨by omega, g2⟩
    · exact ⟨by omega, g3⟩
  · have : j < 2 * i + 1 ∨ j = 2 * i + 1 ∨ j = 2 * i + 1 + 1 := by omega
    rcases this with q | rfl | rfl
    · rw [g5 j q]; have := nb j q; omega
    · rw [g6]; omega
    · rw [g7]; omega
  · refine .inr ⟨by omega, ?_⟩
    by_cases e : node = 0
    · rw [← e]; exact g4
    · rw [g1 0 (Ne.symm e) (by omega)]
      rcases h0 with ⟨_, e2⟩ | ⟨_, q⟩
      · rw [e2] at hmem; simp at hmem; exact absurd hmem e
      · exact q

noncomputable def dueB (P : Params) : CB := forBody (cbAt (lawB P) 11)
theorem c_upB {P : Params} {σ : Store} {n : Nat} {t w wh s : Int} {lower : Bool} {Q : AV → Store → Prop} (ht : 0 ≤ t ∧ t < 10000000000) (hw : 0 < w ∧ w ≤ 256) (hwh : 0 ≤ wh ∧ wh ≤ 256) (hs : 0 ≤ s ∧ s ≤ 3)
    (hQ : Q (.int (upI t w wh s lower)) σ) : W (runF (PP P) (n + 1) 379 [.int t, .int w, .int wh, .int s, .bool lower] [] σ) Q := by
  unfold upI at hQ
  walk_at "enter"
  walk_at "m"
  cases lower with
  | true =>
    simp only [if_true] at hQ
    walk_at "m"
    · rename_i h1; rw [if_pos h1] at hQ; exact hQ
    · rename_i h1; rw [if_neg h1] at hQ; exact hQ
  | false =>
    simp only [Bool.false_eq_true, if_false] at hQ
    walk_at "m"
    exact hQ
structure Ds (ns : List Int) (o : Obj) (m : Nat) (pl : Pl) (hA : Nat → Nat) (b aL aD : Nat) (ls ds : List (Nat × Int × Int)) (σ : Store) : Prop where
  pk : Pk ns o m pl hA b σ
  eL : σ[aL]? = some (lineV ls)
  eT : ∀ p ∈ ls, σ[p.1]? = some (.tup [.int p.2.1, .int p.2.2])
  eD : σ[aD]? = some (lineV ds)
  eU : ∀ p ∈ ds, σ[p.1]? = some (.tup [.int p.2.1, .int p.2.2])
  dD : b ≤ aD ∧ aD ≠ aL
theorem Ds.push {ns : List Int} {o : Obj} {m : Nat} {pl : Pl} {hA : Nat → Nat} {b aL aD : Nat} {ls ds : List (Nat × Int × Int)} {σ : Store} {x y : Int} (h : Ds ns o m pl hA b aL aD ls ds σ) :
    Ds ns o m pl hA b aL aD ls (ds ++ [(σ.length, x, y)]) ((σ ++ [AO.tup [.int x, .int y]]).set aD (.list (ds.map (fun p => .obj p.1) ++ [.obj σ.length]))) := by
  obtain ⟨pk, eL, eT, eD, eU, dD⟩ := h
  have hx : Ext σ (σ ++ [AO.tup [.int x, .int y]]) := (Ext.refl σ).app
  have eD' := hx _ _ eD
  refine ⟨?_, get_set_ne dD.2 (hx _ _ eL), fun p hp => get_set_ne (ne_kind eD' (hx _ _ (eT p hp)) rfl) (hx _ _ (eT p hp)), ?_, fun p hp => ?_, dD⟩
  · refine pk.keep (D := fun a => a = aD) (fun a o' hn e => get_set_ne (fun q => hn q.symm) (hx _ _ e)) (fun a q => by omega)
  · rw [get_set_eq eD']; unfold lineV; rw [List.map_append]; rfl
  · rcases List.mem_append.mp hp with hp | hp
    · exact get_set_ne (ne_kind eD' (hx _ _ (eU p hp)) rfl) (hx _ _ (eU p hp))
    · rw [List.mem_singleton] at hp
      subst hp
      exact get_set_ne (ne_kind eD' (@get_new σ (.tup [.int x, .int y])) rfl) get_new
def dlocs (aL aD : Nat) (turns : Int) : Mini.Loc := [("turns", .int turns), ("numbers", .obj 1), ("parents", .obj 2), ("weights", .obj 3), ("wholes", .obj 4), ("waits", .obj 6), ("skips", .obj 7), ("line", .obj aL), ("due", .obj aD)]
theorem t_own {P : Params} {F : Nat} {ns : List Int} {o : Obj} {m node tn : Nat} {pl : Pl} {hA : Nat → Nat} {b aL aD : Nat} {ls ds : List (Nat × Int × Int)} {ρ : Mini.Loc} {σ : Store} {K : KS} (ok : PlOk m pl)
    (L : Has ρ (("node", .int node) :: dlocs aL aD tn)) (h : Ds ns o m pl hA b aL aD ls ds σ) (hn0 : 0 < node) (hnm : node < m) (htn : tn ≤ 22) (hnd : (ds.map (·.2.1)).Nodup) (hmem : ∀ q, q ∈ ds.map (·.2) ↔ DueR m pl tn node 0 q)
    (hQ : ∀ ρ' σ' ds', Has ρ' (dlocs aL aD tn) → Ds ns o m pl hA b aL aD ls ds' σ' → (ds'.map (·.2.1)).Nodup → (∀ q, q ∈ ds'.map (·.2) ↔ DueR m pl tn (node + 1) 0 q) → K.nxt ρ' σ')
    : WS (execs (XX P (F + 20)) [] (dueB P) ρ σ) K := by
  rw [show dueB P = _ by (conv => (lhs; reduce))]
  dsimp only [Int.reduceOfNat, Int.reduceNegSucc]
  unfold dlocs at L hQ
  have m9 := ok.m9
  walk_at "m"
  refine s_while (fun n ρ τ => ∃ (k : Nat) (ds : List (Nat × Int × Int)), n = tn - k ∧ k ≤ tn ∧ (pl.wa node = -1 ∨ (k : Int) ≤ pl.wa node) ∧ Has ρ (("own", .int k) :: ("node", .int node) :: dlocs aL aD tn) ∧ Ds ns o m pl hA b aL aD ls ds τ ∧ (ds.map (·.2.1)).Nodup ∧ (∀ q, q ∈ ds.map (·.2) ↔ DueR m pl tn node k q)) ?_ (n := tn) (by show _ < 50000; omega) ⟨0, ds, by omega, by omega, ?_, ?_, h, hnd, hmem⟩
  · rintro n ρ2 τ ⟨k, ds, rfl, hk, hw, L2, h2, hnd2, hmem2⟩
    unfold dlocs at L2
    have f1 := h2.pk.nN
    have f6 := h2.pk.aW
    walk_at "m"
    refine i_list f6 (by omega) (arr_get rfl hnm) ?_
    walk_at "m"
    · rename_i hne
      refine s_while (fun n ρ τ' => τ' = τ ∧ ∃ (one : Nat) (t : Int), n = one ∧ one < m ∧ (∀ r, Cl pl one t r → Cl pl node k r) ∧ 0 ≤ t ∧ t ≤ bnd one ∧ Has ρ (("one", .int one) :: ("turn", .int t) :: ("own", .int k) :: ("node", .int node) :: dlocs aL aD tn)) ?_ (n := node) (by show _ < 50000; omega) ⟨rfl, node, k, rfl, hnm, fun r h => h, by omega, ?_, by unfold dlocs; walk_at "hasl"⟩
      · rintro one ρ3 τ3 ⟨rfl, _, t, rfl, ho, hcl, ht0, htb, L3⟩
        unfold dlocs at L3
        walk_at "m"
        · rename_i h0
          have h0 : 0 < one := by omega
          have hw2 := ok.w h0 ho
          have hpl := ok.pa_lt h0 ho
          have hpm : pl.pa one < m := by omega
          obtain ⟨bb1, bb2⟩ := bnd_pos one h0
          have f2 := h2.pk.pP
          have f3 := h2.pk.wW
          have f4 := h2.pk.hW
          have f7 := h2.pk.sS
          refine i_list (v := .int ((pl.pa one : Nat) : Int)) f2 (by omega) (arr_get rfl ho) ?_
          walk_at "m"
          refine i_list f6 (by omega) (arr_get rfl hpm) ?_
          walk_at "m"
          refine i_list f3 (by omega) (arr_get rfl ho) ?_
          walk_at "m"
          refine i_list f4 (by omega) (arr_get rfl ho) ?_
          walk_at "m"
          refine i_list f7 (by omega) (arr_get rfl hpm) ?_
          walk_at "m"
          have hdec : decide ((one : Int) % 2 = 1) = decide (one % 2 = 1) := by rw [decide_eq_decide]; omega
          rw [hdec]
          refine c_upB ⟨ht0, by omega⟩ ⟨by omega, by omega⟩ ⟨by omega, by omega⟩ ⟨by omega, by omega⟩ ?_
          have hup : pl.wa (pl.pa one) + upI t (pl.wt one) (pl.wh one) (pl.sk (pl.pa one)) (decide (one % 2 = 1)) = pl.up one t := rfl
          have hge := ok.up_ge h0 ho ht0
          have hle := upI_le (t := t) (w := pl.wt one) (n := pl.wh one) (s := pl.sk (pl.pa one)) (lower := decide (one % 2 = 1)) (by omega) ⟨by omega, by omega⟩ ⟨by omega, by omega⟩ ht0
          have hbu := bnd_up (p := pl.pa one) (j := one) (by omega) (ok.pa_half h0 ho) htb
          walk_at "m"
          rw [hup]
          refine ⟨pl.pa one, hpl, rfl, pl.pa one, pl.up one t, rfl, hpm, fun r hr => hcl r (.up h0 hr), by omega, by omega, ?_⟩
          unfold dlocs; walk_at "hasl"
        · rename_i h0 hge
          obtain rfl : one = 0 := by omega
          have hc := hcl t .top
          exact hQ _ _ ds (by walk_at "hasl") h2 hnd2 (fun q => (hmem2 q).trans (DueR.done ok hn0 hnm hc (by omega) q))
        · rename_i h0 hlt
          obtain rfl : one = 0 := by omega
          have hc := hcl t .top
          have hval : Valid pl node k := ⟨by omega, by omega, by omega⟩
          have hkt := hc.ge ok hnm (by omega)
          have eD := h2.eD
          unfold lineV at eD
          walk_at "m"
          refine i_list f1 (by omega) (arr_get rfl hnm) ?_
          have hdl : (ds.map fun p : Nat × Int × Int => AV.obj p.1).length = ds.length := List.length_map ..
          have hdl2 : ds.length ≤ tn := by
            have := ints_len hnd2 (n := tn) (fun x hx => by
              obtain ⟨p, hp, rfl⟩ := List.mem_map.mp hx
              obtain ⟨v, k', r', q0, q1, q2, q3, q4, q5, q6⟩ := (hmem2 p.2).mp (List.mem_map.mpr ⟨p, hp, rfl⟩)
              rw [q6]
              have := q4.ge ok q1 q3.2.1
              have := q3.2.1
              dsimp only; omega)
            rw [List.length_map] at this; exact this
          walk_at "m"
          · rw [hdl]; show _ < 100000; omega
          · refine ⟨tn - (k + 1), by omega, k + 1, _, rfl, by omega, by omega, by unfold dlocs; walk_at "hasl", h2.push, ?_, fun q => ?_⟩
            · rw [List.map_append, List.map_singleton, List.nodup_append]
              refine ⟨hnd2, by simp, fun a ha b' hb' e => ?_⟩
              rw [List.mem_singleton] at hb'
              subst hb'
              obtain ⟨p, hp, rfl⟩ := List.mem_map.mp ha
              exact DueR.fresh ok hnm hval hc p.2 ((hmem2 p.2).mp (List.mem_map.mpr ⟨p, hp, rfl⟩)) e
            · rw [List.map_append, List.map_singleton, List.mem_append, List.mem_singleton, hmem2 q]
              exact (DueR.step hn0 hnm hval hc (by omega) q).symm
      · have := (bnd_pos node hn0).1
        omega
    · rename_i he
      exact hQ _ _ ds (by walk_at "hasl") h2 hnd2 (fun q => (hmem2 q).trans (DueR.full (by omega) (by omega) q))
  · by_cases e : pl.hs node = []
    · exact .inl (ok.wl node hnm e (by omega))
    · have := (ok.wa3 node hnm e).1
      exact .inr (by omega)
  · unfold dlocs; walk_at "hasl"

theorem p_a {P : Params} {F : Nat} {ns : List Int} {o : Obj} {rest : CB} {ρ : Mini.Loc} {K : KS} (L : Has ρ [("script", .obj 0)]) (hns : ns.length ≤ 63)
    (hQ : ∀ ρ' σ' (tn : Nat), 8 ≤ tn → tn ≤ 22 → Has ρ' (plocs tn) → Fk ns o 0 ⟨fun _ => 0, fun _ => 0, fun _ => 1, fun _ => 1, fun _ => 0, fun _ => 0, fun _ => []⟩ (fun _ => 8) [0] σ' → WS (execs (XX P (F + 20)) [] rest ρ' σ') K)
    : WS (execs (XX P (F + 20)) [] (.cons (cbAt (lawB P) 0) (.cons (cbAt (lawB P) 1) (.cons (cbAt (lawB P) 2) (.cons (cbAt (lawB P) 3) rest)))) ρ [.rol (ns.map .int) o]) K := by
  rw [show cbAt (lawB P) 0 = _ by (conv => (lhs; reduce)), show cbAt (lawB P) 1 = _ by (conv => (lhs; reduce)), show cbAt (lawB P) 2 = _ by (conv => (lhs; reduce)), show cbAt (lawB P) 3 = _ by (conv => (lhs; reduce))]
  dsimp only [Int.reduceOfNat, Int.reduceNegSucc]
  have e0 : ([.rol (ns.map .int) o] : Store)[0]? = some (.rol (ns.map .int) o) := rfl
  walk_at "m"
  refine c_pick e0 hns (by omega) (by omega) fun v0 a0 b0 => ?_
  obtain ⟨tn, htn⟩ : ∃ s : Nat, 8 + v0 = s := ⟨(8 + v0).toNat, by omega⟩
  walk_at "m"
  rw [htn]
  refine ⟨by show 4 < 100000; omega, ?_⟩
  walk_at "m"
  refine ⟨by show 3 < 100000; omega, ?_⟩
  walk_at "m"
  simp only [List.length_append, List.length_cons, List.length_nil, List.cons_append, List.nil_append, Nat.reduceAdd]
  refine hQ _ _ tn (by omega) (by omega) ?_ ⟨⟨?_, ?_, ?_, ?_, ?_, ?_, rfl, ?_⟩, ⟨rfl, rfl, rfl, rfl, rfl, rfl, rfl, rfl, ?_, ?_, ?_, ?_⟩, rfl, by simp, ?_, by simp, by simp, ?_, .inl ⟨rfl, rfl⟩⟩
  · unfold plocs; walk_at "hasl"
  · intro p hp; exact .inl rfl
  · intro j h0 hj; omega
  · intro p hp h; exact absurd rfl h
  · intro p hp h h0; omega
  · rfl
  · intro i j hij hj; omega
  · omega
  · intro i hi; rfl
  · intro i hi; exact ⟨.inl rfl, by simp⟩
  · intro i j hi hj hij; omega
  · simp
  · intro t ht; rw [List.mem_singleton] at ht; subst ht; exact ⟨by omega, rfl⟩
  · intro j hj; exact Int.le_refl _
theorem p_b {P : Params} {F : Nat} {ns : List Int} {o : Obj} {rest : CB} {ρ : Mini.Loc} {σ : Store} {K : KS} {pl : Pl} {hA : Nat → Nat} {tn : Nat} (hns : ns.length ≤ 63) (L : Has ρ (plocs tn)) (h : Fk ns o 0 pl hA [0] σ)
    (hQ : ∀ ρ' σ' i pl' hA' tips', 2 ≤ i → i ≤ 4 → Has ρ' (plocs tn) → Fk ns o i pl' hA' tips' σ' → WS (execs (XX P (F + 20)) [] rest ρ' σ') K)
    : WS (execs (XX P (F + 20)) [] (.cons (cbAt (lawB P) 4) rest) ρ σ) K := by
  have hS := show frkB P = _ by (conv => (lhs; reduce))
  rw [show cbAt (lawB P) 4 = _ by (conv => (lhs; reduce)), ← hS]
  clear hS
  have tf := @t_fork P F
  generalize frkB P = sb at tf ⊢
  dsimp only [Int.reduceOfNat, Int.reduceNegSucc]
  unfold plocs at L hQ tf
  have e0 := h.pk.sc
  walk_at "m"
  refine c_pick e0 hns (by omega) (by omega) fun v0 a0 b0 => ?_
  walk_at "m"
  refine s_rangeF (fun i ρ τ => ∃ pl' hA' tips', Has ρ (plocs tn) ∧ Fk ns o i pl' hA' tips' τ) (2 + v0).toNat (by omega) (by show _ < 50000; omega) ⟨pl, hA, [0], by unfold plocs; walk_at "hasl", h⟩ ?_ ?_
  · rintro i ρ2 τ hi ⟨pl', hA', tips', L2, h2⟩
    unfold plocs at L2
    rw [show (0 : Int) + (i : Int) = (i : Int) by omega]
    refine a_loc ?_
    refine tf hns (i := i) (turns := tn) (by walk_at "hasl") h2 (by omega) fun ρ' σ' pl2 hA2 tips2 L' h' => ⟨pl2, hA2, tips2, L', h'⟩
  · rintro ρ2 τ ⟨pl', hA', tips', L2, h2⟩
    exact hQ _ _ _ _ _ _ (by omega) (by omega) L2 h2

/-- the tree is made and its first streams laid -/
theorem p_c {P : Params} {F : Nat} {ns : List Int} {o : Obj} {rest : CB} {ρ : Mini.Loc} {σ : Store} {K : KS} {m : Nat} {pl : Pl} {hA : Nat → Nat} {tn : Nat} (L : Has ρ (plocs tn)) (ok : PlOk m pl) (hm : 0 < m) (h0 : pl.hs 0 ≠ []) (pk : Pk ns o m pl hA σ.length σ)
    (hQ : ∀ ρ' σ' b td sd S B T A N, Has ρ' (("tree", .obj (b + 1)) :: plocs tn) → GInv m pl S B (fun _ => 0) T → Cnt S N → Pk ns o m pl hA b σ' → PTr (b + 1) td sd pl.num A T S N σ' → (∀ a, domT A S sd a → b ≤ a) → WS (execs (XX P (F + 20)) [] rest ρ' σ') K)
    : WS (execs (XX P (F + 20)) [] (.cons (cbAt (lawB P) 5) (.cons (cbAt (lawB P) 6) rest)) ρ σ) K := by
  rw [show cbAt (lawB P) 5 = _ by (conv => (lhs; reduce)), show cbAt (lawB P) 6 = _ by (conv => (lhs; reduce))]
  dsimp only [Int.reduceOfNat, Int.reduceNegSucc]
  unfold plocs at L hQ
  walk_at "m"
  refine c_tree (n := F + 14) (I := pl.num) (T := fun _ => ⟨1, false, 0, 0, [], [], none⟩) ok.n0 rfl fun σ1 td sd A t1 k1 d1 => ?_
  have pk1 : Pk ns o m pl hA σ.length σ1 := pk.keep (D := fun _ => False) (fun a o _ e => k1 a o e) (fun a q => q.elim)
  walk_at "m"
  obtain ⟨l, kl⟩ := (ok.kids 0 hm).resolve_left h0
  refine c_firsts (n := F + 19) (x := 0) pk1 hm (by rcases kl.hs with e | ⟨e, _⟩ <;> rw [e] <;> exact Nat.le_refl _) fun σ2 r x2 e2 hr2 => ?_
  have pk2 : Pk ns o m pl hA σ.length σ2 := pk1.keep (D := fun _ => False) (fun a o _ e => x2 a o e) (fun a q => q.elim)
  walk_at "m"
  refine c_lay (n := F + 13) ok (LayInv.start ok h0 hm rfl) pk2 (t1.ext x2) d1 e2 ⟨[0], by simp, by simp, rfl⟩ fun σ3 S B A3 T3 N3 g3 t3 c3 k3 d3 => ?_
  walk_at "m"
  refine hQ _ _ σ.length td sd S B T3 A3 N3 (by walk_at "hasl") g3 c3 (pk2.keep k3 d1) t3 fun a q => ?_
  rcases d3 a q with q | q
  · exact d1 a q
  · have h1 := x2.len
    have h2 := lt_of_get t1.o
    omega
/-- the turns -/
theorem p_d {P : Params} {F : Nat} {ns : List Int} {o : Obj} {rest : CB} {ρ : Mini.Loc} {σ : Store} {K : KS} {m : Nat} {pl : Pl} {hA : Nat → Nat} {tn b td sd N : Nat} {S B : Nat → Prop} {T : Nat → Nd} {A : Nat → Ad} (L : Has ρ (("tree", .obj (b + 1)) :: plocs tn)) (ok : PlOk m pl) (htn : tn ≤ 22)
    (g : GInv m pl S B (fun _ => 0) T) (hc : Cnt S N) (pk : Pk ns o m pl hA b σ) (pt : PTr (b + 1) td sd pl.num A T S N σ) (hd : ∀ a, domT A S sd a → b ≤ a)
    (hQ : ∀ ρ' σ' aP aL ls, Has ρ' (llocs b aP aL tn) → Pk ns o m pl hA b σ' → σ'[aL]? = some (lineV ls) → (∀ p ∈ ls, σ'[p.1]? = some (.tup [.int p.2.1, .int p.2.2])) → b < aL → LineOk m pl ls → ls.length = tn → WS (execs (XX P (F + 20)) [] rest ρ' σ') K)
    : WS (execs (XX P (F + 20)) [] (.cons (cbAt (lawB P) 7) (.cons (cbAt (lawB P) 8) (.cons (cbAt (lawB P) 9) rest))) ρ σ) K := by
  have hS := show trnB P = _ by (conv => (lhs; reduce))
  rw [show cbAt (lawB P) 7 = _ by (conv => (lhs; reduce)), show cbAt (lawB P) 8 = _ by (conv => (lhs; reduce)), show cbAt (lawB P) 9 = _ by (conv => (lhs; reduce)), ← hS]
  clear hS
  have tt := @t_turn P F
  generalize trnB P = sb at tt ⊢
  dsimp only [Int.reduceOfNat, Int.reduceNegSucc]
  have m9 := ok.m9
  unfold plocs at L
  have f1 := pk.nN
  have hal : (arr m pl.num).length = m := arr_len
  walk_at "m"
  rw [hal]
  refine b_rep get_new (by omega) ?_
  rw [arr_zero (n := m) rfl]
  have hp0 : arr m (fun _ => (0 : Int)) = arr m (pas fun _ => 0) := arr_congr fun i _ => by unfold pas; split <;> rfl
  rw [hp0]
  walk_at "m"
  have hx : Ext σ (σ ++ [AO.list [.int 0]] ++ [AO.list (arr m (pas fun _ => 0))] ++ [AO.list []]) := (Ext.refl σ).app.app.app
  have eL : (σ ++ [AO.list [.int 0]] ++ [AO.list (arr m (pas fun _ => 0))] ++ [AO.list []])[(σ ++ [AO.list [.int 0]] ++ [AO.list (arr m (pas fun _ => 0))]).length]? = some (lineV []) := get_new
  have eP : (σ ++ [AO.list [.int 0]] ++ [AO.list (arr m (pas fun _ => 0))] ++ [AO.list []])[(σ ++ [AO.list [.int 0]]).length]? = some (.list (arr m (pas fun _ => 0))) := get_app get_new
  have l1 : (σ ++ [AO.list [.int 0]]).length = σ.length + 1 := by simp
  have l2 : (σ ++ [AO.list [.int 0]] ++ [AO.list (arr m (pas fun _ => 0))]).length = σ.length + 2 := by simp
  rw [l1] at eP
  rw [l2] at eL
  rw [l1, l2]
  generalize σ ++ [AO.list [.int 0]] ++ [AO.list (arr m (pas fun _ => 0))] ++ [AO.list []] = σ1 at *
  have hbs := lt_of_get pt.o
  have rs : Rs ns o m pl hA b (σ.length + 1) (σ.length + 2) td sd S A T N (fun _ => 0) [] σ1 :=
    ⟨pk.keep (D := fun _ => False) (fun a o _ e => hx a o e) (fun a q => q.elim), pt.ext hx, fun a q => ⟨hd a q, by have := pt.dom_lt q; omega⟩, eP, eL, (fun p hp => by cases hp), by omega⟩
  have hW : tn < (PP P).W := by show tn < 50000; omega
  refine s_rangeF (fun i ρ τ => ∃ S B A T N c ls, Has ρ (llocs b (σ.length + 1) (σ.length + 2) tn) ∧ GInv m pl S B c T ∧ Cnt S N ∧ c 0 = ls.length ∧ LineOk m pl ls ∧ ls.length = i ∧ Rs ns o m pl hA b (σ.length + 1) (σ.length + 2) td sd S A T N c ls τ) tn (by omega) hW
    ⟨S, B, A, T, N, fun _ => 0, [], by unfold llocs; walk_at "hasl", g, hc, rfl, (fun t p e => by cases e), rfl, rs⟩ ?_ ?_
  · rintro i ρ2 τ hi ⟨S2, B2, A2, T2, N2, c2, ls2, L2, g2, n2, z2, k2, rfl, r2⟩
    rw [show (0 : Int) + (ls2.length : Int) = (ls2.length : Int) by omega]
    refine a_loc ?_
    refine tt ok (turns := tn) (by unfold llocs at L2 ⊢; walk_at "hasl") g2 n2 z2 k2 (by omega) r2 fun ρ' σ' S' B' A' T' N' c' ls' a1 a2 a3 a4 a5 a6 a7 => ⟨S', B', A', T', N', c', ls', a1, a2, a3, a4, a5, a6, a7⟩
  · rintro ρ2 τ ⟨S2, B2, A2, T2, N2, c2, ls2, L2, g2, n2, z2, k2, hl, r2⟩
    exact hQ _ _ _ _ ls2 L2 r2.pk r2.eL r2.eT r2.dP.2.1 k2 hl
/-- the table -/
theorem p_e {P : Params} {F : Nat} {ns : List Int} {o : Obj} {rest : CB} {ρ : Mini.Loc} {σ : Store} {K : KS} {m : Nat} {pl : Pl} {hA : Nat → Nat} {tn b aP aL : Nat} {ls : List (Nat × Int × Int)} (L : Has ρ (llocs b aP aL tn)) (ok : PlOk m pl) (hm : 0 < m) (htn : tn ≤ 22)
    (pk : Pk ns o m pl hA b σ) (eL : σ[aL]? = some (lineV ls)) (eT : ∀ p ∈ ls, σ[p.1]? = some (.tup [.int p.2.1, .int p.2.2])) (hb : b < aL)
    (hQ : ∀ ρ' σ' aD ds, Has ρ' [("line", .obj aL), ("due", .obj aD)] → Ds ns o m pl hA b aL aD ls ds σ' → (ds.map (·.2.1)).Nodup → (∀ q, q ∈ ds.map (·.2) ↔ DueR m pl tn m 0 q) → WS (execs (XX P (F + 20)) [] rest ρ' σ') K)
    : WS (execs (XX P (F + 20)) [] (.cons (cbAt (lawB P) 10) (.cons (cbAt (lawB P) 11) rest)) ρ σ) K := by
  have hS := show dueB P = _ by (conv => (lhs; reduce))
  rw [show cbAt (lawB P) 10 = _ by (conv => (lhs; reduce)), show cbAt (lawB P) 11 = _ by (conv => (lhs; reduce)), ← hS]
  clear hS
  have tt := @t_own P F
  generalize dueB P = sb at tt ⊢
  dsimp only [Int.reduceOfNat, Int.reduceNegSucc]
  have m9 := ok.m9
  unfold llocs at L
  have f1 := pk.nN
  have hal : (arr m pl.num).length = m := arr_len
  walk_at "m"
  all_goals try (rw [hal]; constructor <;> omega)
  have hx : Ext σ (σ ++ [AO.list []]) := (Ext.refl σ).app
  have d0 : Ds ns o m pl hA b aL σ.length ls [] (σ ++ [AO.list []]) := ⟨pk.keep (D := fun _ => False) (fun a o _ e => hx a o e) (fun a q => q.elim), hx _ _ eL, fun p hp => hx _ _ (eT p hp), get_new, (fun p hp => by cases hp), by have := lt_of_get eL; omega⟩
  have hW : m - 1 < (PP P).W := by show m - 1 < 50000; omega
  refine s_rangeF (fun i ρ τ => ∃ ds, Has ρ (dlocs aL σ.length tn) ∧ Ds ns o m pl hA b aL σ.length ls ds τ ∧ (ds.map (·.2.1)).Nodup ∧ (∀ q, q ∈ ds.map (·.2) ↔ DueR m pl tn (i + 1) 0 q)) (m - 1) (by rw [hal]; omega) hW
    ⟨[], by unfold dlocs; walk_at "hasl", d0, List.nodup_nil, fun q => ⟨fun h => (by cases h), fun ⟨v, k, r, h0, h1, h2, h3, _⟩ => by have := h3.2.1; omega⟩⟩ ?_ ?_
  · rintro i ρ2 τ hi ⟨ds, L2, h2, n2, m2⟩
    rw [show (1 : Int) + (i : Int) = ((i + 1 : Nat) : Int) by omega]
    refine a_loc ?_
    refine tt ok (node := i + 1) (tn := tn) (by unfold dlocs at L2 ⊢; walk_at "hasl") h2 (by omega) (by omega) htn n2 m2 fun ρ' σ' ds' a1 a2 a3 a4 => ⟨ds', a1, a2, a3, a4⟩
  · rintro ρ2 τ ⟨ds, L2, h2, n2, m2⟩
    unfold dlocs at L2
    rw [show m - 1 + 1 = m by omega] at m2
    exact hQ _ _ σ.length ds (by walk_at "hasl") h2 n2 m2
/-- the table is the line -/
theorem p_f {P : Params} {F : Nat} {ns : List Int} {o : Obj} {ρ : Mini.Loc} {σ : Store} {Q : AV → Store → Prop} {m : Nat} {pl : Pl} {hA : Nat → Nat} {tn b aL aD : Nat} {ls ds : List (Nat × Int × Int)} (L : Has ρ [("line", .obj aL), ("due", .obj aD)]) (ok : PlOk m pl) (htn : tn ≤ 22)
    (h : Ds ns o m pl hA b aL aD ls ds σ) (hnd : (ds.map (·.2.1)).Nodup) (hmem : ∀ q, q ∈ ds.map (·.2) ↔ DueR m pl tn m 0 q) (hl : LineOk m pl ls) (hll : ls.length = tn)
    (hQ : ∀ σ', σ'[0]? = some (.rol (ns.map .int) o) → Q (.bool true) σ')
    : WS (execs (XX P (F + 20)) [] (.cons (cbAt (lawB P) 12) (.cons (cbAt (lawB P) 13) .nil)) ρ σ) { nxt := fun _ σ => Q .none σ, brk := fun _ _ => False, cont := fun _ _ => False, ret := Q } := by
  rw [show cbAt (lawB P) 12 = _ by (conv => (lhs; reduce)), show cbAt (lawB P) 13 = _ by (conv => (lhs; reduce))]
  dsimp only [Int.reduceOfNat, Int.reduceNegSucc]
  have eD := h.eD
  have eL := h.eL
  unfold lineV at eD eL
  have hlen : ds.length ≤ tn := by
    have := ints_len hnd (n := tn) (fun x hx => by
      obtain ⟨p, hp, rfl⟩ := List.mem_map.mp hx
      obtain ⟨v, k', r', q0, q1, q2, q3, q4, q5, q6⟩ := (hmem p.2).mp (List.mem_map.mpr ⟨p, hp, rfl⟩)
      rw [q6]
      have := q4.ge ok q1 q3.2.1
      have := q3.2.1
      dsimp only; omega)
    rw [List.length_map] at this; exact this
  obtain ⟨qs, s1, s2, s3⟩ := sortA_pairs (σ := σ) h.eU hnd (by omega)
  walk_at "m"
  refine lm_sort rfl s1 ?_
  have lsrt : (ls.map (·.2)).Pairwise fun a b => a.1 < b.1 := by
    rw [List.pairwise_map, List.pairwise_iff_getElem]
    intro i j hi hj hij
    have h1 := (hl i _ (List.getElem?_eq_getElem hi)).1
    have h2 := (hl j _ (List.getElem?_eq_getElem hj)).1
    omega
  have ndl : (ls.map (·.2)).Nodup := lsrt.imp fun {a b} hab e => by rw [e] at hab; omega
  have ndd : (ds.map (·.2)).Nodup := by
    have : (ds.map (·.2.1)) = (ds.map (·.2)).map (·.1) := by rw [List.map_map]; rfl
    rw [this] at hnd
    exact List.Pairwise.imp (fun {a b} hab e => hab (by rw [e])) (List.pairwise_map.mp hnd)
  have heq : qs.map (·.2) = ls.map (·.2) := by
    refine sorted_unique ((s2.map _).trans ?_) (List.pairwise_map.mpr s3) lsrt
    refine (List.perm_ext_iff_of_nodup ndd ndl).mpr fun q => ?_
    rw [hmem q]
    constructor
    · rintro ⟨v, k, r, h0, h1, h2, h3, h4, h5, rfl⟩
      have hr := h4.ge ok h1 h3.2.1
      have hk := h3.2.1
      have hi : r.toNat < ls.length := by omega
      obtain ⟨e1, f, k2, e2, e3, e4, e5⟩ := hl r.toNat _ (List.getElem?_eq_getElem hi)
      rw [show ((r.toNat : Nat) : Int) = r by omega] at e1 e5
      obtain ⟨rfl, _⟩ := h4.inj ok e5 h1 e3 h3 e4
      exact List.mem_map.mpr ⟨_, List.getElem_mem hi, Prod.ext e1 e2⟩
    · intro hq
      obtain ⟨p, hp, rfl⟩ := List.mem_map.mp hq
      obtain ⟨t, ht⟩ := List.getElem?_of_mem hp
      have htl := (List.getElem?_eq_some_iff.mp ht).1
      obtain ⟨e1, f, k2, e2, e3, e4, e5⟩ := hl t p ht
      exact ⟨f, k2, t, Nat.pos_of_ne_zero e4.1, e3, .inl e3, e4, e5, by omega, Prod.ext e1 e2⟩
  have u1 : ∀ p ∈ qs, (σ.set aD (.list (qs.map fun p => .obj p.1)))[p.1]? = some (.tup [.int p.2.1, .int p.2.2]) := fun p hp => by
    have := h.eU p (s2.mem_iff.mp hp)
    exact get_set_ne (ne_kind eD this rfl) this
  have u2 : ∀ p ∈ ls, (σ.set aD (.list (qs.map fun p => .obj p.1)))[p.1]? = some (.tup [.int p.2.1, .int p.2.2]) := fun p hp => by
    have := h.eT p hp
    exact get_set_ne (ne_kind eD this rfl) this
  have g1 : (σ.set aD (.list (qs.map fun p => .obj p.1)))[aD]? = some (.list (qs.map fun p => .obj p.1)) := get_set_eq eD
  have g2 : (σ.set aD (.list (qs.map fun p => .obj p.1)))[aL]? = some (.list (ls.map fun p => .obj p.1)) := get_set_ne h.dD.2 eL
  have g0 : (σ.set aD (.list (qs.map fun p => .obj p.1)))[0]? = some (.rol (ns.map .int) o) := get_set_ne (by have := h.pk.b12; have := h.dD.1; omega) h.pk.sc
  generalize σ.set aD (.list (qs.map fun p => .obj p.1)) = σ2 at *
  walk_at "m"
  refine c_eqP g1 g2 heq u1 u2 ?_
  exact hQ _ g0

def cbLen : CB → Nat
  | .nil => 0
  | .cons _ r => cbLen r + 1
def cbOf : Nat → (Nat → CS) → CB
  | 0, _ => .nil
  | n + 1, f => .cons (f 0) (cbOf n fun k => f (k + 1))
theorem cb_exp : ∀ {b : CB} {n : Nat}, cbLen b = n → b = cbOf n (cbAt b)
  | .nil, n, h => by subst h; rfl
  | .cons s r, n, h => by
    subst h
    have := cb_exp (b := r) rfl
    show CB.cons s r = CB.cons s (cbOf (cbLen r) fun k => cbAt r k)
    rw [← this]
theorem t_law {P : Params} {F : Nat} {ns : List Int} {o : Obj} {Q : AV → Store → Prop} (hns : ns.length ≤ 63) (hQ : ∀ σ, σ[0]? = some (.rol (ns.map .int) o) → Q (.bool true) σ) : W (runF (PP P) (F + 21) 386 [.obj 0] [] [.rol (ns.map .int) o]) Q := by
  have h1 : (PP P).fn 386 = some ((fnAt (hd03.heap_39 P) 386).getD default) := by rfl
  have hp : ((fnAt (hd03.heap_39 P) 386).getD default).params = [("script" : Str)] := by rfl
  have hd : ((fnAt (hd03.heap_39 P) 386).getD default).defs = [] := by rfl
  have h2 : bindA ((fnAt (hd03.heap_39 P) 386).getD default).params ((fnAt (hd03.heap_39 P) 386).getD default).defs [.obj 0] [] = some [(("script" : Str), AV.obj 0)] := by rw [hp, hd]; rfl
  have h3 : cellNames ((fnAt (hd03.heap_39 P) 386).getD default).names = [] := by rfl
  have h4 : cbLen (lawB P) = 14 := by rfl
  have h5 := cb_exp h4
  refine w_fn0 h1 h2 h3 ?_
  rw [show ((fnAt (hd03.heap_39 P) 386).getD default).body = lawB P from (lawT P).2, h5]
  clear h1 h2 h3 h4 h5
  dsimp only [cbOf]
  have pa := @p_a P F
  have pb := @p_b P F
  have pc := @p_c P F
  have pd := @p_d P F
  have pe := @p_e P F
  have pf := @p_f P F
  generalize cbAt (lawB P) 0 = s0 at pa ⊢
  generalize cbAt (lawB P) 1 = s1 at pa ⊢
  generalize cbAt (lawB P) 2 = s2 at pa ⊢
  generalize cbAt (lawB P) 3 = s3 at pa ⊢
  generalize cbAt (lawB P) 4 = s4 at pb ⊢
  generalize cbAt (lawB P) 5 = s5 at pc ⊢
  generalize cbAt (lawB P) 6 = s6 at pc ⊢
  generalize cbAt (lawB P) 7 = s7 at pd ⊢
  generalize cbAt (lawB P) 8 = s8 at pd ⊢
  generalize cbAt (lawB P) 9 = s9 at pd ⊢
  generalize cbAt (lawB P) 10 = s10 at pe ⊢
  generalize cbAt (lawB P) 11 = s11 at pe ⊢
  generalize cbAt (lawB P) 12 = s12 at pf ⊢
  generalize cbAt (lawB P) 13 = s13 at pf ⊢
  refine pa (ns := ns) (o := o) (by walk_at "hasl") hns fun ρ1 σ1 tn a1 a2 L1 f1 => ?_
  refine pb hns L1 f1 fun ρ2 σ2 i pl hA tips b1 b2 L2 f2 => ?_
  have h0 : pl.hs 0 ≠ [] := by
    rcases f2.h0 with ⟨q, _⟩ | ⟨_, q⟩
    · omega
    · exact q
  refine pc L2 f2.ok (by omega) h0 f2.pk fun ρ3 σ3 b td sd S B T A N L3 g3 c3 pk3 pt3 hd3 => ?_
  refine pd L3 f2.ok a2 g3 c3 pk3 pt3 hd3 fun ρ4 σ4 aP aL ls L4 pk4 eL4 eT4 hb4 hl4 hn4 => ?_
  refine pe L4 f2.ok (by omega) a2 pk4 eL4 eT4 hb4 fun ρ5 σ5 aD ds L5 d5 n5 m5 => ?_
  exact pf L5 f2.ok a2 d5 n5 m5 hl4 hn4 hQ
theorem pure03 : Pure03 := by
  intro P ns o hns
  have h := t_law (P := P) (F := 20) (ns := ns) (o := o) (Q := fun v σ => v = .bool true ∧ σ[0]? = some (.rol (ns.map .int) o)) hns (fun σ e => ⟨rfl, e⟩)
  obtain ⟨v, σ', e, hv, h0⟩ := W.eq h
  subst hv
  have hl : Mini.lawIn (hd03.heap_39 P) "law" = 386 := by rfl
  rw [hl]
  exact ⟨σ', e, h0⟩

end L03
end
theorem PySem.Challenge.cw_vp0039_03_holds : PySem.Challenge.rw_vp0039_03.Holds :=
  Mine.glue03 L03.pure03
