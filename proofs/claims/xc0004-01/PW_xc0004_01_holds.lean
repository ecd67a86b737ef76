import PyProof.Rows.All
import Wide.All
import OpenK.AllK
import Wide.FinOn
import PySem.Challenge.RW_xc0004_01
set_option Elab.async false
section
open PySem
set_option maxRecDepth 100000
namespace Mine

/-- what a value stands for -/
inductive D where
  | none
  | bool (b : Bool)
  | int (i : Int)
  | str (s : Str)
  | bytes (b : List UInt8)
  | list (xs : List D)
  | tuple (xs : List D)

/-- a frame's name: a datum, or a list that the frame alone holds and grows -/
inductive Cell where
  | val (d : D)
  | own (ds : List D)

noncomputable abbrev Rho := List (Str × Cell)

inductive Fl where
  | next
  | brk
  | cont
  | ret (d : D)

noncomputable def cap : Nat := 16777216

noncomputable def D.int? : D → Option Int
  | .int i => some i
  | _ => .none
noncomputable def D.str? : D → Option Str
  | .str s => some s
  | _ => .none
noncomputable def ints? : List D → Option (List Int)
  | [] => some []
  | d :: r => d.int?.bind fun i => (ints? r).map (i :: ·)
noncomputable def strs? : List D → Option (List Str)
  | [] => some []
  | d :: r => d.str?.bind fun i => (strs? r).map (i :: ·)

/-- a value that lies in no object -/
noncomputable def D.imm : D → Bool
  | .list _ => false
  | .tuple _ => false
  | _ => true

noncomputable def small (i : Int) : Bool := decide (-(2 ^ 60) < i) && decide (i < 2 ^ 60)

noncomputable def pickL {α : Type} (xs : List α) (lo hi st : Option Int) : List α :=
  (sliceRange (sliceBounds lo hi st xs.length).1 (sliceBounds lo hi st xs.length).2.1 (sliceBounds lo hi st xs.length).2.2).filterMap (xs[·]?)

noncomputable def idx? (n : Nat) (i : Int) : Option Nat :=
  if 0 ≤ i ∧ i < n then some i.toNat else if i < 0 ∧ 0 ≤ i + n then some (i + n).toNat else .none

noncomputable def rep {α : Type} (n : Nat) (xs : List α) : List α := (List.replicate n xs).flatten

/-- a step that two numbers allow -/
noncomputable def ii (f : Int → Int → Option D) : D → D → Option D
  | .int a, .int b => f a b
  | _, _ => .none
noncomputable def addD : D → D → Option D
  | .int a, .int b => some (.int (a + b))
  | .str a, .str b => if a.length + b.length ≤ cap then some (.str (a ++ b)) else .none
  | .bytes a, .bytes b => if a.length + b.length ≤ cap then some (.bytes (a ++ b)) else .none
  | .list a, .list b => if a.length + b.length ≤ cap then some (.list (a ++ b)) else .none
  | _, _ => .none
noncomputable def mulI (n : Int) : D → Option D
  | .int a => if small a && small n then some (.int (a * n)) else .none
  | .str a => if a.length = 1 ∧ 0 ≤ n ∧ n ≤ 1000000 then some (.str ⟨(rep n.toNat a.cps.toList).toArray⟩) else .none
  | _ => .none
noncomputable def mulD (a : D) : D → Option D
  | .int n => mulI n a
  | _ => .none
noncomputable def binop (op : Operator) (a b : D) : Option D := match op with
  | .Add => addD a b
  | .Mult => mulD a b
  | .Sub => ii (fun a b => some (.int (a - b))) a b
  | .FloorDiv => ii (fun a b => if decide (b ≠ 0) && decide (b.natAbs < 1073741824) then some (.int (a.fdiv b)) else .none) a b
  | .Mod => ii (fun a b => if b ≠ 0 then some (.int (a.fmod b)) else .none) a b
  | .Pow => ii (fun a n => if small a && decide (0 ≤ n) && decide (n ≤ 1000) then some (.int (a ^ n.toNat)) else .none) a b
  | .RShift => ii (fun a n => if 0 ≤ n then some (.int (a.fdiv (2 ^ n.toNat))) else .none) a b
  | .LShift => ii (fun a n => if small a && decide (0 ≤ n) && decide (n ≤ 1000) then some (.int (a * 2 ^ n.toNat)) else .none) a b
  | .BitAnd => ii (fun a b => some (.int (Builtin.bitAnd a b))) a b
  | _ => .none

noncomputable def eqL (x y : List D) : Option Bool := (ints? x).bind fun a => (ints? y).map fun b => decide (a = b)
noncomputable def eqD : D → D → Option Bool
  | .int a, .int b => some (decide (a = b))
  | .str a, .str b => some (decide (a = b))
  | .bytes a, .bytes b => some (decide (a = b))
  | .list a, .list b => eqL a b
  | _, _ => .none

noncomputable def ci (f : Int → Int → Bool) : D → D → Option Bool
  | .int a, .int b => some (f a b)
  | _, _ => .none
noncomputable def cmp (op : CmpOp) (a b : D) : Option Bool := match op with
  | .Eq => eqD a b
  | .NotEq => (eqD a b).map (!·)
  | .Lt => ci (fun a b => decide (a < b)) a b
  | .LtE => ci (fun a b => decide (a ≤ b)) a b
  | .Gt => ci (fun a b => decide (a > b)) a b
  | .GtE => ci (fun a b => decide (a ≥ b)) a b
  | _ => .none

noncomputable def truth : D → Option Bool
  | .int a => some (decide (a ≠ 0))
  | .bool b => some b
  | _ => .none

noncomputable def part? : D → Option (Option Int)
  | .none => some .none
  | .int i => if small i then some (some i) else .none
  | _ => .none

noncomputable def sliceAt : D → Option Int → Option Int → Option Int → Option D
  | .str s, lo, hi, .none => if s.length ≤ cap then some (.str ⟨(pickL s.cps.toList lo hi .none).toArray⟩) else .none
  | .bytes b, lo, hi, .none => if b.length ≤ cap then some (.bytes (pickL b lo hi .none)) else .none
  | .list xs, lo, hi, st => if decide (xs.length ≤ cap) && decide (st ≠ some 0) then some (.list (pickL xs lo hi st)) else .none
  | _, _, _, _ => .none

noncomputable def slice (v lo hi st : D) : Option D := (part? lo).bind fun lo => (part? hi).bind fun hi => (part? st).bind fun st => sliceAt v lo hi st

noncomputable def index : D → D → Option D
  | .list xs, .int i => if xs.length ≤ cap then (idx? xs.length i).bind (xs[·]?) else .none
  | .str s, .int i => if s.length ≤ cap then (idx? s.length i).bind fun k => (s.cps.toList[k]?).map fun c => .str ⟨#[c]⟩ else .none
  | _, _ => .none

noncomputable def rangeL (a c : Int) (n : Nat) : List D := (List.range n).map fun (k : Nat) => D.int (a + k * c)

noncomputable def range? : List D → Option (List D)
  | [.int b] => if decide (-1000000 ≤ b) && decide (b ≤ 1000000) then some (rangeL 0 1 b.toNat) else .none
  | [.int a, .int b] => if decide (-1000000 ≤ a) && decide (a ≤ 1000000) && decide (-1000000 ≤ b) && decide (b ≤ 1000000) then some (rangeL a 1 (b - a).toNat) else .none
  | [.int a, .int b, .int c] => if c = -1 ∧ -1000000 ≤ a ∧ a ≤ 1000000 ∧ -1000000 ≤ b ∧ b ≤ 1000000 then some (rangeL a (-1) (a - b).toNat) else .none
  | _ => .none

noncomputable def one {α : Type} (f : D → Option α) : List D → Option α
  | [d] => f d
  | _ => .none
noncomputable def two {α : Type} (f : D → D → Option α) : List D → Option α
  | [d, e] => f d e
  | _ => .none
noncomputable def onI {α : Type} (f : Int → Option α) : D → Option α
  | .int a => f a
  | _ => .none
noncomputable def onL {α : Type} (f : List D → Option α) : D → Option α
  | .list a => f a
  | _ => .none
noncomputable def onS {α : Type} (f : Str → Option α) : D → Option α
  | .str a => f a
  | _ => .none
noncomputable def lenD : D → Option D
  | .str s => if s.length ≤ cap then some (.int s.length) else .none
  | .bytes b => if b.length ≤ cap then some (.int b.length) else .none
  | .list xs => if xs.length ≤ cap then some (.int xs.length) else .none
  | _ => .none
noncomputable def sumL (xs : List D) : Option D := (ints? xs).bind fun is => if is.all (fun i => decide (-1000000000000 ≤ i) && decide (i ≤ 1000000000000)) && decide (is.length ≤ 1000000) then some (.int is.sum) else .none
noncomputable def dmD (a b : Int) : Option D := if decide (b ≠ 0) && decide (b.natAbs < 1073741824) then some (.tuple [.int (a.fdiv b), .int (a.fmod b)]) else .none
noncomputable def strI (a : Int) : Option D := if decide (0 ≤ a) && decide (a ≤ 1000000) then some (.str (Str.ofString (toString a))) else .none
noncomputable def bytL (xs : List D) : Option D := (ints? xs).bind fun is => if is.all (fun i => decide (0 ≤ i) && decide (i ≤ 255)) && decide (is.length ≤ 1000000) then some (.bytes (is.map fun i => UInt8.ofNat i.toNat)) else .none
noncomputable def builtin? (f : Str) (ds : List D) : Option D :=
  if f = "len" then one lenD ds
  else if f = "sum" then one (onL sumL) ds
  else if f = "divmod" then two (ii dmD) ds
  else if f = "int" then one (onI fun a => some (.int a)) ds
  else if f = "abs" then one (onI fun a => some (.int a.natAbs)) ds
  else if f = "str" then one (onI strI) ds
  else if f = "bytes" then one (onL bytL) ds
  else .none

noncomputable def builtinNames : List Str := ["len", "sum", "divmod", "int", "abs", "str", "bytes"]

noncomputable def joinL (s : Str) (xs : List D) : Option D := (strs? xs).bind fun ss => if (ss.map (·.length)).sum + ss.length * s.length ≤ 16777216 then some (.str (Txt.join s ss)) else .none
noncomputable def splitS (s u : Str) : Option D := if decide (u.length ≠ 0) && decide (s.length ≤ 1000000) && decide ((Builtin.Str.partsBetween s (Builtin.Str.occurrences s u 0 s.length (s.length + 1)) u.length).length ≤ cap)
  then some (.list ((Txt.split s u).map .str)) else .none
noncomputable def method? (m : Str) (o : D) (ds : List D) : Option D :=
  if m = "join" then onS (fun s => one (onL (joinL s)) ds) o
  else if m = "split" then onS (fun s => one (onS (splitS s)) ds) o
  else .none

/-- what a method is called on -/
noncomputable def plainBase : Expr → Bool
  | .Constant .. => true
  | .Name .. => true
  | .Subscript .. => true
  | .Call _ (_ :: _) _ _ => true
  | _ => false

noncomputable abbrev Names := List (Str × NameKind)

/-- a comprehension's block that the rules take -/
noncomputable def compOk (scope : Scope) (x : Str) (around : Names) : Bool :=
  decide (scope.kind = .function) && scope.names.all (fun y => match y.2 with
    | .cell => false
    | .local => scope.names.lookup y.1 == some .local
    | .free => around.lookup y.1 == some .cell
    | _ => true) && scope.names.lookup x == some .local && x != ("__debug__" : Str)
noncomputable abbrev Fns := Str → List D → Option D

noncomputable def valO : Option Cell → Option D
  | some (.val d) => some d
  | _ => .none
noncomputable def getV (ρ : Rho) (x : Str) : Option D := valO (ρ.lookup x)

/-- the names that a comprehension's block reads from around -/
noncomputable def innerV (y : Str) : Option Cell → Option (Str × Cell)
  | some (.val d) => some (y, .val d)
  | _ => .none
noncomputable def inner (names around : Names) (ρ : Rho) : Rho := names.filterMap fun y =>
  if names.lookup y.1 == some .free && around.lookup y.1 == some .cell then innerV y.1 (ρ.lookup y.1) else .none

noncomputable def consD (b : Bool) (x : Option D) (xs : Option (List D)) : Option (List D) := match b with
  | true => x.bind fun x => xs.bind fun xs => if x.imm then some (x :: xs) else .none
  | false => xs
noncomputable def compL (test : D → Option Bool) (elt : D → Option D) : List D → Option (List D)
  | [] => some []
  | d :: r => (test d).bind fun b => consD b (elt d) (compL test elt r)

noncomputable def constD : Const → Option D
  | .none => some .none
  | .bool b => some (.bool b)
  | .int i => some (.int i)
  | .str s => some (.str s)
  | .bytes b => some (.bytes b)
  | _ => .none

-- what a written expression is
noncomputable def nameOf : Expr → Option Str
  | .Name x _ => some x
  | _ => .none
noncomputable def attrOf : Expr → Option (Expr × Str × Pos)
  | .Attribute o m p => some (o, m, p)
  | _ => .none
noncomputable def callOf : Expr → Option (Expr × List Expr × List Keyword × Pos)
  | .Call f a k p => some (f, a, k, p)
  | _ => .none
noncomputable def tupOf : Expr → Option (List Expr)
  | .Tuple es _ _ => some es
  | _ => .none
noncomputable def isSl : Expr → Bool
  | .Slice .. => true
  | _ => false
noncomputable def isNil : Expr → Bool
  | .List es _ => es.isEmpty
  | _ => false
-- the steps
noncomputable def bin2 (op : Operator) : Option D → Option D → Option D
  | some a, some b => binop op a b
  | _, _ => .none
noncomputable def negO : Option D → Option D
  | some (.int a) => some (.int (-a))
  | _ => .none
noncomputable def ifO {α : Type} (b o : Option α) : Option Bool → Option α
  | some true => b
  | some false => o
  | .none => .none
noncomputable def listO : Option (List D) → Option D
  | some ds => if ds.length ≤ cap then some (.list ds) else .none
  | .none => .none
noncomputable def tupO : Option (List D) → Option D
  | some ds => if ds.length ≤ cap then some (.tuple ds) else .none
  | .none => .none
noncomputable def cons2 : Option D → Option (List D) → Option (List D)
  | some d, some ds => some (d :: ds)
  | _, _ => .none
noncomputable def cmp2 (op : CmpOp) : Option D → Option D → Option Bool
  | some a, some b => cmp op a b
  | _, _ => .none
noncomputable def truthO : Option D → Option Bool
  | some d => truth d
  | .none => .none
noncomputable def callF (Φ : Fns) (f : Str) : Option NameKind → Option (List D) → Option D
  | some .globalImplicit, some ds => if builtinNames.contains f then builtin? f ds else Φ f ds
  | _, _ => .none
noncomputable def slice4 : Option D → Option D → Option D → Option D → Option D
  | some d, some l, some h, some s => slice d l h s
  | _, _, _, _ => .none
noncomputable def iterN : Option D → Option (List D)
  | some (.list ds) => if ds.length ≤ cap then some ds else .none
  | some (.bytes b) => if b.length ≤ cap then some (b.map fun c => .int c.toNat) else .none
  | _ => .none
noncomputable def iterL : Option (List D) → Option (List D)
  | some ds => if ds.length ≤ cap then some ds else .none
  | .none => .none
noncomputable def iterV : Option D → Option (List D)
  | some (.list ds) => if ds.length ≤ cap then some ds else .none
  | _ => .none
noncomputable def rangeO : Option NameKind → Option (List D) → Option (List D)
  | some .globalImplicit, some ds => range? ds
  | _, _ => .none
noncomputable def repA (_ : D) (_ : List Expr) : Option D := .none
noncomputable def callM (m : Str) (args : List Expr) : Option D → Option (List D) → Option D
  | some d, some ds => if m = "replace" then repA d args else method? m d ds
  | _, _ => .none
noncomputable def callOwn (m : Str) (xs : List D) : Option (List D) → Option D
  | some ds => if m = "count" then one (onI fun i => (ints? xs).bind fun is => if is.length ≤ 1000 then some (.int (is.count i)) else .none) ds else .none
  | .none => .none
noncomputable def idxO : Option D → Option D → Option D
  | some d, some k => index d k
  | _, _ => .none
noncomputable def methN (m : Str) (args : List Expr) (ds : Option (List D)) : Option Cell → Option D
  | some (.own xs) => callOwn m xs ds
  | some (.val d) => callM m args (some d) ds
  | .none => .none

/-- what an expression gives: as a value, as a test, as what a for goes over, the object of an attribute, a slice's parts -/
structure Res where
  v : Option D := .none
  t : Option Bool := .none
  i : Option (List D) := .none
  o : Option D := .none
  a : Option D := .none
  b : Option D := .none
  c : Option D := .none
noncomputable def bad : Res := {}
noncomputable def resT (d : Option D) : Res := { v := d, t := truthO d }
noncomputable def colV : List Res → Option (List D)
  | [] => some []
  | r :: rs => cons2 r.v (colV rs)
noncomputable def andL : List Res → Option Bool
  | [] => some true
  | r :: rs => ifO (andL rs) (some false) r.t
noncomputable def orL : List Res → Option Bool
  | [] => some false
  | r :: rs => ifO (some true) (orL rs) r.t
noncomputable def unR (op : UnaryOp) (r : Res) : Res := match op with
  | .USub => { v := negO r.v }
  | .Not => { t := r.t.map (!·) }
  | _ => bad
noncomputable def boolR (op : BoolOp) (rs : List Res) : Res := match op with
  | .And => { t := andL rs }
  | .Or => { t := orL rs }
noncomputable def cmpR (ops : List CmpOp) (l : Res) (rs : List Res) : Res := match ops, rs with
  | [op], [r] => { v := (cmp2 op l.v r.v).map .bool, t := cmp2 op l.v r.v }
  | _, _ => bad
noncomputable def rangeF (f : Str) (k : Option NameKind) (ds : Option (List D)) : Option (List D) := if f = "range" then rangeO k ds else .none
noncomputable def nameC (Φ : Fns) (f : Str) (k : Option NameKind) (ds : Option (List D)) : Res := { v := callF Φ f k ds, t := truthO (callF Φ f k ds), i := rangeF f k ds }
noncomputable def methR (n : Option Str) (m : Str) (args : List Expr) (ρ : Rho) (od : Option D) (ds : Option (List D)) : Option D := match n with
  | some x => methN m args ds (ρ.lookup x)
  | .none => callM m args od ds
noncomputable def attC (o : Expr) (m : Str) (apos pos : Pos) (args : List Expr) (ρ : Rho) (od : Option D) (ds : Option (List D)) : Option D :=
  if (apos.endLine == pos.line && decide (args.length < 5) && plainBase o) = true then methR (nameOf o) m args ρ od ds else .none
noncomputable def callR (Φ : Fns) (f : Expr) (args : List Expr) (kws : List Keyword) (pos : Pos) (nm : Names) (ρ : Rho) (od : Option D) (ds : Option (List D)) : Res := match kws with
  | _ :: _ => bad
  | [] => match nameOf f with
    | some x => nameC Φ x (nm.lookup x) ds
    | .none => match attrOf f with
      | some (o, m, apos) => { v := attC o m apos pos args ρ od ds }
      | .none => bad
noncomputable def subR (sl : Bool) (v : Option D) (r : Res) : Res := match sl with
  | true => { v := slice4 v r.a r.b r.c, i := iterV (slice4 v r.a r.b r.c) }
  | false => { v := idxO v r.v }
noncomputable def compV (x : Str) (asy : Int) (sc : Scope) (nm : Names) (ρ : Rho) (test : Names → Rho → Option Bool) (elt : Names → Rho → Option D) (src : List D) : Option D :=
  if decide (asy = 0) && decide (src.length ≤ cap) && src.all D.imm && compOk sc x nm then
    (compL (fun d => test sc.names ((x, .val d) :: inner sc.names nm ρ)) (fun d => elt sc.names ((x, .val d) :: inner sc.names nm ρ)) src).map .list else .none
noncomputable def compR (x : Option Str) (asy : Int) (sc : Scope) (nm : Names) (ρ : Rho) (test : Names → Rho → Option Bool) (elt : Names → Rho → Option D) (src : Option (List D)) : Res :=
  { v := x.bind fun x => src.bind (compV x asy sc nm ρ test elt) }

mutual
noncomputable def rv (Φ : Fns) : Expr → Names → Rho → Res
  | .Constant c _ _, _, _ => { v := constD c }
  | .Name x _, _, ρ => { v := getV ρ x, t := truthO (getV ρ x), i := iterN (getV ρ x) }
  | .BinOp l op r _, nm, ρ => resT (bin2 op (rv Φ l nm ρ).v (rv Φ r nm ρ).v)
  | .UnaryOp op x _, nm, ρ => unR op (rv Φ x nm ρ)
  | .BoolOp op es _, nm, ρ => boolR op (rvs Φ es nm ρ)
  | .IfExp t b o _, nm, ρ => { v := ifO (rv Φ b nm ρ).v (rv Φ o nm ρ).v (rv Φ t nm ρ).t }
  | .List es _, nm, ρ => { v := listO (colV (rvs Φ es nm ρ)), i := iterL (colV (rvs Φ es nm ρ)) }
  | .Tuple es _ _, nm, ρ => { v := tupO (colV (rvs Φ es nm ρ)) }
  | .Compare l ops rs _, nm, ρ => cmpR ops (rv Φ l nm ρ) (rvs Φ rs nm ρ)
  | .Call f args kws pos, nm, ρ => callR Φ f args kws pos nm ρ (rv Φ f nm ρ).o (colV (rvs Φ args nm ρ))
  | .Attribute o _ _, nm, ρ => { o := (rv Φ o nm ρ).v }
  | .Subscript v sl _, nm, ρ => subR (isSl sl) (rv Φ v nm ρ).v (rv Φ sl nm ρ)
  | .Slice lo hi st _, nm, ρ => { a := rvO Φ lo nm ρ, b := rvO Φ hi nm ρ, c := rvO Φ st nm ρ }
  | .ListComp elt [⟨t, iter, ifs, k⟩] sc _, nm, ρ => compR (nameOf t) k sc nm ρ (fun nm ρ => andL (rvs Φ ifs nm ρ)) (fun nm ρ => (rv Φ elt nm ρ).v) (rv Φ iter nm ρ).i
  | _, _, _ => bad
noncomputable def rvs (Φ : Fns) : List Expr → Names → Rho → List Res
  | [], _, _ => []
  | e :: r, nm, ρ => rv Φ e nm ρ :: rvs Φ r nm ρ
noncomputable def rvO (Φ : Fns) : Option Expr → Names → Rho → Option D
  | .none, _, _ => some .none
  | some e, nm, ρ => (rv Φ e nm ρ).v
end
noncomputable def ev (Φ : Fns) (e : Expr) (nm : Names) (ρ : Rho) : Option D := (rv Φ e nm ρ).v
noncomputable def evT (Φ : Fns) (e : Expr) (nm : Names) (ρ : Rho) : Option Bool := (rv Φ e nm ρ).t
noncomputable def evI (Φ : Fns) (e : Expr) (nm : Names) (ρ : Rho) : Option (List D) := (rv Φ e nm ρ).i
noncomputable def evO (Φ : Fns) (e : Option Expr) (nm : Names) (ρ : Rho) : Option D := rvO Φ e nm ρ
noncomputable def evs (Φ : Fns) (es : List Expr) (nm : Names) (ρ : Rho) : Option (List D) := colV (rvs Φ es nm ρ)
/-- all tests hold -/
noncomputable def evA (Φ : Fns) (es : List Expr) (nm : Names) (ρ : Rho) : Option Bool := andL (rvs Φ es nm ρ)
/-- one of the tests holds -/
noncomputable def evR (Φ : Fns) (es : List Expr) (nm : Names) (ρ : Rho) : Option Bool := orL (rvs Φ es nm ρ)

/-- a name that a statement may store -/
noncomputable def stOk (nm : Names) (x : Str) : Bool := x != ("__debug__" : Str) && (nm.lookup x == some .local || nm.lookup x == some .cell)

structure Pol where
  own : List Str := []
  freeze : List (Nat × Str) := []
  fuel : Nat := 100000

noncomputable def freeze (P : Pol) (line : Nat) (ρ : Rho) : Rho := ρ.map fun y => match y.2 with
  | .own ds => if P.freeze.contains (line, y.1) then (y.1, .val (.list ds)) else y
  | _ => y

noncomputable def put (ρ : Rho) (x : Str) (c : Cell) : Rho := match ρ with
  | [] => [(x, c)]
  | y :: r => if y.1 = x then (x, c) :: r else y :: put r x c

noncomputable def puts (ρ : Rho) : List Str → List Cell → Option Rho
  | [], [] => some ρ
  | x :: xs, c :: cs => puts (put ρ x c) xs cs
  | _, _ => .none

noncomputable def namesOf : List Expr → Option (List Str)
  | [] => some []
  | e :: r => (nameOf e).bind fun x => (namesOf r).map (x :: ·)

/-- what comes behind a body's turn -/
noncomputable def turn (k : Rho → Option (Fl × Rho)) : Option (Fl × Rho) → Option (Fl × Rho)
  | some (.next, ρ') => k ρ'
  | some (.cont, ρ') => k ρ'
  | some (.brk, ρ') => some (.next, ρ')
  | some (.ret d, ρ') => some (.ret d, ρ')
  | .none => .none

noncomputable def loopW (test : Rho → Option Bool) (body : Rho → Option (Fl × Rho)) : Nat → Rho → Option (Fl × Rho)
  | 0, _ => .none
  | n + 1, ρ => ifO (turn (loopW test body n) (body ρ)) (some (.next, ρ)) (test ρ)

noncomputable def loopF (x : Str) (body : Rho → Option (Fl × Rho)) : List D → Rho → Option (Fl × Rho)
  | [], ρ => some (.next, ρ)
  | d :: r, ρ => turn (loopF x body r) (body (put ρ x (.val d)))

noncomputable def cellE (Φ : Fns) (P : Pol) (nm : Names) (ρ : Rho) (x : Str) (e : Expr) : Option Cell :=
  if P.own.contains x then (if isNil e then some (.own []) else .none) else (ev Φ e nm ρ).map .val
noncomputable def consC : Option Cell → Option (List Cell) → Option (List Cell)
  | some c, some cs => some (c :: cs)
  | _, _ => .none
/-- the items of a tuple display, those for the own names as they are made -/
noncomputable def evC (Φ : Fns) (P : Pol) : List Str → List Expr → Names → Rho → Option (List Cell)
  | [], [], _, _ => some []
  | x :: xs, e :: es, nm, ρ => consC (cellE Φ P nm ρ x e) (evC Φ P xs es nm ρ)
  | _, _, _, _ => .none

-- statements
noncomputable def tupOk (P : Pol) (nm : Names) (xs : List Str) : Bool := xs.all (stOk nm) && decide xs.Nodup && decide (xs.length ≤ 8) && !xs.any P.own.contains
noncomputable def dispOk (nm : Names) (xs : List Str) : Bool := xs.all (stOk nm) && decide xs.Nodup && decide (xs.length ≤ 8)
noncomputable def putsO : Option Rho → Option (Fl × Rho)
  | some ρ => some (.next, ρ)
  | .none => .none
noncomputable def tupV (P : Pol) (nm : Names) (ρ : Rho) : Option (List Str) → Option D → Option (Fl × Rho)
  | some xs, some (.tuple ds) => if tupOk P nm xs && decide (ds.length = xs.length) then putsO (puts ρ xs (ds.map .val)) else .none
  | _, _ => .none
noncomputable def tupD (nm : Names) (ρ : Rho) (alone : Bool) : Option (List Str) → Option (List Cell) → Option (Fl × Rho)
  | some xs, some cs => if dispOk nm xs && !alone then putsO (puts ρ xs cs) else .none
  | _, _ => .none
noncomputable def evCO (Φ : Fns) (P : Pol) (nm : Names) (ρ : Rho) (es : List Expr) : Option (List Str) → Option (List Cell)
  | some xs => evC Φ P xs es nm ρ
  | .none => .none
noncomputable def retS (ρ : Rho) : Option D → Option (Fl × Rho)
  | some d => some (.ret d, ρ)
  | .none => .none
noncomputable def asgS (P : Pol) (nm : Names) (ρ : Rho) (x : Str) : Option D → Option (Fl × Rho)
  | some d => if !P.own.contains x && stOk nm x then some (.next, put ρ x (.val d)) else .none
  | .none => .none
noncomputable def augS (P : Pol) (nm : Names) (ρ : Rho) (x : Str) : Option D → Option D → Option (Fl × Rho)
  | some (.int a), some (.int b) => if !P.own.contains x && stOk nm x then some (.next, put ρ x (.val (.int (a + b)))) else .none
  | _, _ => .none
noncomputable def appS (ρ : Rho) (x : Str) : Option Cell → Option (List D) → Option (Fl × Rho)
  | some (.own ds), some [d] => if ds.length ≤ 1000000 then some (.next, put ρ x (.own (ds ++ [d]))) else .none
  | _, _ => .none
noncomputable def forB (P : Pol) (nm : Names) (ρ : Rho) (x : Str) (body : Rho → Option (Fl × Rho)) : Option (List D) → Option (Fl × Rho)
  | some src => if !P.own.contains x && stOk nm x && src.all D.imm then loopF x body src ρ else .none
  | .none => .none
noncomputable def retX (Φ : Fns) (nm : Names) (ρ : Rho) : Option Expr → Option (Fl × Rho)
  | some e => retS ρ (ev Φ e nm ρ)
  | .none => .none
noncomputable def appX (Φ : Fns) (nm : Names) (ρ : Rho) (e : Expr) : Option (Fl × Rho) := (callOf e).bind fun c => (attrOf c.1).bind fun a => (nameOf a.1).bind fun x =>
  if c.2.2.1.isEmpty && decide (a.2.1 = Str.ofString "append") && decide (c.2.1.length = 1) && (a.2.2.endLine == c.2.2.2.line) then appS ρ x (ρ.lookup x) (evs Φ c.2.1 nm ρ) else .none
noncomputable def asgT (Φ : Fns) (P : Pol) (nm : Names) (ρ : Rho) (ts : List Expr) (e : Expr) : Option (Fl × Rho) := match tupOf e with
  | some es => tupD nm ρ (es.all (constantsAlone 8)) (namesOf ts) (evCO Φ P nm ρ es (namesOf ts))
  | .none => tupV P nm ρ (namesOf ts) (ev Φ e nm ρ)
noncomputable def asgX (Φ : Fns) (P : Pol) (nm : Names) (ρ : Rho) (t e : Expr) : Option (Fl × Rho) := match nameOf t with
  | some x => asgS P nm ρ x (ev Φ e nm ρ)
  | .none => (tupOf t).bind fun ts => asgT Φ P nm ρ ts e
noncomputable def asgA (Φ : Fns) (P : Pol) (nm : Names) (ρ : Rho) (e : Expr) : List Expr → Option (Fl × Rho)
  | [t] => asgX Φ P nm ρ t e
  | _ => .none
noncomputable def augX (Φ : Fns) (P : Pol) (nm : Names) (ρ : Rho) (t : Expr) (op : Operator) (e : Expr) : Option (Fl × Rho) := (nameOf t).bind fun x =>
  if op = .Add then augS P nm ρ x (getV ρ x) (ev Φ e nm ρ) else .none
noncomputable def seqO (k : Rho → Option (Fl × Rho)) : Option (Fl × Rho) → Option (Fl × Rho)
  | some (.next, ρ') => k ρ'
  | some (.cont, ρ') => some (.cont, ρ')
  | some (.brk, ρ') => some (.brk, ρ')
  | some (.ret d, ρ') => some (.ret d, ρ')
  | .none => .none

mutual
noncomputable def ex (Φ : Fns) (P : Pol) (nm : Names) : Stmt → Rho → Option (Fl × Rho)
  | .Pass _, ρ => some (.next, ρ)
  | .Break _, ρ => some (.brk, ρ)
  | .Return e pos, ρ => retX Φ nm (freeze P pos.line ρ) e
  | .Expr e pos, ρ => appX Φ nm (freeze P pos.line ρ) e
  | .Assign ts e pos, ρ => asgA Φ P nm (freeze P pos.line ρ) e ts
  | .AugAssign t op e pos, ρ => augX Φ P nm (freeze P pos.line ρ) t op e
  | .If t b o pos, ρ => ifO (exs Φ P nm b (freeze P pos.line ρ)) (exs Φ P nm o (freeze P pos.line ρ)) (evT Φ t nm (freeze P pos.line ρ))
  | .While t b o pos, ρ => if o.isEmpty = true then loopW (evT Φ t nm) (exs Φ P nm b) P.fuel (freeze P pos.line ρ) else .none
  | .For t it b o pos, ρ => if o.isEmpty = true then (nameOf t).bind fun x => forB P nm (freeze P pos.line ρ) x (exs Φ P nm b) (evI Φ it nm (freeze P pos.line ρ)) else .none
  | _, _ => .none
noncomputable def exs (Φ : Fns) (P : Pol) (nm : Names) : List Stmt → Rho → Option (Fl × Rho)
  | [], ρ => some (.next, ρ)
  | s :: r, ρ => seqO (fun ρ' => exs Φ P nm r ρ') (ex Φ P nm s ρ)
end

-- readings
theorem no {α : Type} {d : α} {p : Prop} (h : (none : Option α) = some d) : p := nomatch h
theorem some_i {α : Type} {a d : α} (h : some a = some d) : a = d := Option.some.inj h
theorem ifs {α : Type} {c : Prop} [h : Decidable c] {a d : α} (e : (if c then some a else none) = some d) : c ∧ a = d := by
  by_cases hc : c
  · rw [if_pos hc] at e; exact ⟨hc, some_i e⟩
  · rw [if_neg hc] at e; exact no e
theorem ifx {α : Type} {c : Prop} [h : Decidable c] {a : Option α} {d : α} (e : (if c then a else none) = some d) : c ∧ a = some d := by
  by_cases hc : c
  · rw [if_pos hc] at e; exact ⟨hc, e⟩
  · rw [if_neg hc] at e; exact no e
theorem bnd {α β : Type} {a : Option α} {f : α → Option β} {d : β} (e : a.bind f = some d) : ∃ x, a = some x ∧ f x = some d := by
  cases a with
  | none => exact no e
  | some x => exact ⟨x, rfl, e⟩
theorem mpd {α β : Type} {a : Option α} {f : α → β} {d : β} (e : a.map f = some d) : ∃ x, a = some x ∧ f x = d := by
  cases a with
  | none => exact no e
  | some x => exact ⟨x, rfl, some_i e⟩
theorem nameOf_i {e : Expr} {x : Str} (h : nameOf e = some x) : ∃ p, e = .Name x p := by
  cases e <;> first | exact no h | (cases some_i h; exact ⟨_, rfl⟩)
theorem attrOf_i {e : Expr} {x : Expr × Str × Pos} (h : attrOf e = some x) : e = .Attribute x.1 x.2.1 x.2.2 := by
  cases e <;> first | exact no h | (cases some_i h; rfl)
theorem callOf_i {e : Expr} {x : Expr × List Expr × List Keyword × Pos} (h : callOf e = some x) : e = .Call x.1 x.2.1 x.2.2.1 x.2.2.2 := by
  cases e <;> first | exact no h | (cases some_i h; rfl)
theorem tupOf_i {e : Expr} {x : List Expr} (h : tupOf e = some x) : ∃ k p, e = .Tuple x k p := by
  cases e <;> first | exact no h | (cases some_i h; exact ⟨_, _, rfl⟩)
theorem isSl_i {e : Expr} (h : isSl e = true) : ∃ lo hi st p, e = .Slice lo hi st p := by
  cases e <;> first | exact absurd h Bool.false_ne_true | exact ⟨_, _, _, _, rfl⟩
theorem isNil_i {e : Expr} (h : isNil e = true) : ∃ p, e = .List [] p := by
  cases e <;> first | exact absurd h Bool.false_ne_true | skip
  rename_i es p
  cases es with
  | nil => exact ⟨p, rfl⟩
  | cons => exact absurd h Bool.false_ne_true
theorem ifO_i {α : Type} {b o : Option α} {c : Option Bool} {r : α} (h : ifO b o c = some r) : (c = some true ∧ b = some r) ∨ (c = some false ∧ o = some r) := by
  cases c with
  | none => exact no h
  | some c =>
    cases c with
    | true => exact .inl ⟨rfl, h⟩
    | false => exact .inr ⟨rfl, h⟩
theorem ii_i {f : Int → Int → Option D} {a b d : D} (h : ii f a b = some d) : ∃ i j, a = .int i ∧ b = .int j ∧ f i j = some d := by
  cases a <;> first | exact no h | skip
  cases b <;> first | exact no h | exact ⟨_, _, rfl, rfl, h⟩
theorem one_i {α : Type} {f : D → Option α} {ds : List D} {r : α} (h : one f ds = some r) : ∃ d, ds = [d] ∧ f d = some r := by
  cases ds with
  | nil => exact no h
  | cons d ds =>
    cases ds with
    | nil => exact ⟨d, rfl, h⟩
    | cons => exact no h
theorem two_i {α : Type} {f : D → D → Option α} {ds : List D} {r : α} (h : two f ds = some r) : ∃ d e, ds = [d, e] ∧ f d e = some r := by
  cases ds with
  | nil => exact no h
  | cons d ds =>
    cases ds with
    | nil => exact no h
    | cons e ds =>
      cases ds with
      | nil => exact ⟨d, e, rfl, h⟩
      | cons => exact no h
theorem onI_i {α : Type} {f : Int → Option α} {d : D} {r : α} (h : onI f d = some r) : ∃ i, d = .int i ∧ f i = some r := by
  cases d <;> first | exact no h | exact ⟨_, rfl, h⟩
theorem onL_i {α : Type} {f : List D → Option α} {d : D} {r : α} (h : onL f d = some r) : ∃ i, d = .list i ∧ f i = some r := by
  cases d <;> first | exact no h | exact ⟨_, rfl, h⟩
theorem onS_i {α : Type} {f : Str → Option α} {d : D} {r : α} (h : onS f d = some r) : ∃ i, d = .str i ∧ f i = some r := by
  cases d <;> first | exact no h | exact ⟨_, rfl, h⟩
theorem turn_i {k : Rho → Option (Fl × Rho)} {x : Option (Fl × Rho)} {r : Fl × Rho} (h : turn k x = some r) :
    ∃ fl ρ', x = some (fl, ρ') ∧ match fl with
      | .next => k ρ' = some r
      | .cont => k ρ' = some r
      | .brk => (.next, ρ') = r
      | .ret d => (.ret d, ρ') = r := by
  rcases x with _ | ⟨fl, ρ'⟩
  · exact no h
  · refine ⟨fl, ρ', rfl, ?_⟩
    cases fl with
    | next => exact h
    | cont => exact h
    | brk => exact some_i h
    | ret d => exact some_i h
theorem valO_i {c : Option Cell} {d : D} (h : valO c = some d) : c = some (.val d) := by
  rcases c with _ | c
  · exact no h
  · cases c with
    | val x => cases some_i h; rfl
    | own => exact no h

end Mine
end
section
open PySem
set_option maxRecDepth 100000
set_option Elab.async false
namespace Mine
-- the evaluator, a step at a time

theorem toNat_inj {a b : Char} (h : a.toNat = b.toNat) : a = b := Char.ext (UInt32.toNat_inj.mp h)
theorem ofs_inj {a b : String} (h : Str.ofString a = Str.ofString b) : a = b := by
  rw [Str.ofString_eq_toList, Str.ofString_eq_toList] at h
  have h2 : a.toList.map Char.toNat = b.toList.map Char.toNat := by
    have := congrArg (fun x => x.cps.toList) h
    simpa using this
  have h3 : a.toList = b.toList := List.map_inj_right (fun x y => toNat_inj) |>.mp h2
  exact String.toList_inj.mp h3
theorem ofs_beq (a b : String) : (Str.ofString a == Str.ofString b) = (a == b) := by
  by_cases h : a = b
  · subst h; simp
  · have : Str.ofString a ≠ Str.ofString b := fun e => h (ofs_inj e)
    rw [beq_eq_false_iff_ne.mpr this, beq_eq_false_iff_ne.mpr h]
theorem ofs_eq (a b : String) : (Str.ofString a = Str.ofString b) = (a = b) := propext ⟨ofs_inj, fun h => by rw [h]⟩

noncomputable abbrev vI (x : String) (i : Int) : Str × Cell := (Str.ofString x, .val (.int i))
noncomputable abbrev vS (x : String) (i : Str) : Str × Cell := (Str.ofString x, .val (.str i))
noncomputable abbrev vB (x : String) (i : List UInt8) : Str × Cell := (Str.ofString x, .val (.bytes i))
noncomputable abbrev vL (x : String) (i : List D) : Str × Cell := (Str.ofString x, .val (.list i))
noncomputable abbrev vO (x : String) (i : List D) : Str × Cell := (Str.ofString x, .own i)

theorem lookup_k {α : Type} (x y : String) (c : α) (r : List (Str × α)) : List.lookup (Str.ofString x) ((Str.ofString y, c) :: r) = if x = y then some c else List.lookup (Str.ofString x) r := by
  rw [List.lookup_cons, ofs_beq]
  by_cases h : x = y
  · subst h; rw [if_pos rfl, beq_self_eq_true]
  · rw [beq_eq_false_iff_ne.mpr h, if_neg h]
theorem lookup_s (x y : String) (c : Cell) (r : Rho) : List.lookup (Str.ofString x) ((Str.ofString y, c) :: r) = if x = y then some c else List.lookup (Str.ofString x) r := lookup_k x y c r
theorem getV_val (x y : String) (d : D) (r : Rho) : getV ((Str.ofString y, .val d) :: r) (Str.ofString x) = if x = y then some d else getV r (Str.ofString x) := by
  unfold getV
  rw [lookup_s]
  by_cases h : x = y
  · rw [if_pos h, if_pos h]; rfl
  · rw [if_neg h, if_neg h]
theorem getV_own (x y : String) (d : List D) (r : Rho) : getV ((Str.ofString y, .own d) :: r) (Str.ofString x) = if x = y then none else getV r (Str.ofString x) := by
  unfold getV
  rw [lookup_s]
  by_cases h : x = y
  · rw [if_pos h, if_pos h]; rfl
  · rw [if_neg h, if_neg h]
theorem put_nil (x : Str) (c : Cell) : put [] x c = [(x, c)] := rfl
theorem put_s (x y : String) (c d : Cell) (r : Rho) : put ((Str.ofString y, d) :: r) (Str.ofString x) c = if y = x then (Str.ofString x, c) :: r else (Str.ofString y, d) :: put r (Str.ofString x) c := by
  rw [put]
  by_cases h : y = x
  · subst h; simp
  · rw [if_neg h, if_neg (fun e => h (ofs_inj e))]

section
variable (Φ : Fns) (P : Pol) (nm : Names) (ρ : Rho)

theorem freeze_miss {P : Pol} {line : Nat} {ρ : Rho} (h : P.freeze.all (fun y => y.1 != line) = true) : freeze P line ρ = ρ := by
  induction ρ with
  | nil => rfl
  | cons y r ih =>
    obtain ⟨n, c⟩ := y
    unfold freeze at ih ⊢
    rw [List.map_cons, ih]
    cases c with
    | val d => rfl
    | own ds =>
      have : P.freeze.contains (line, n) = false := by
        rw [Bool.eq_false_iff]
        intro hc
        have hm := List.contains_iff_mem.mp hc
        have := List.all_eq_true.mp h _ hm
        simp at this
      simp only [this, Bool.false_eq_true, if_false]

noncomputable def andThen (r : List Stmt) (x : Option (Fl × Rho)) : Option (Fl × Rho) := seqO (fun ρ' => exs Φ P nm r ρ') x
theorem exs_nil : exs Φ P nm [] ρ = some (.next, ρ) := rfl
theorem exs_cons (s : Stmt) (r : List Stmt) : exs Φ P nm (s :: r) ρ = andThen Φ P nm r (ex Φ P nm s ρ) := rfl
theorem andThen_next (r : List Stmt) : andThen Φ P nm r (some (.next, ρ)) = exs Φ P nm r ρ := rfl
theorem andThen_brk (r : List Stmt) : andThen Φ P nm r (some (.brk, ρ)) = some (.brk, ρ) := rfl
theorem andThen_ret (r : List Stmt) (d : D) : andThen Φ P nm r (some (.ret d, ρ)) = some (.ret d, ρ) := rfl

noncomputable def ifS (b o : List Stmt) (c : Option Bool) : Option (Fl × Rho) := ifO (exs Φ P nm b ρ) (exs Φ P nm o ρ) c
theorem ifS_true (b o : List Stmt) : ifS Φ P nm ρ b o (some true) = exs Φ P nm b ρ := rfl
theorem ifS_false (b o : List Stmt) : ifS Φ P nm ρ b o (some false) = exs Φ P nm o ρ := rfl
theorem ex_if (t : Expr) (b o : List Stmt) (pos : Pos) : ex Φ P nm (.If t b o pos) ρ = ifS Φ P nm (freeze P pos.line ρ) b o (evT Φ t nm (freeze P pos.line ρ)) := rfl
theorem ex_pass (pos : Pos) : ex Φ P nm (.Pass pos) ρ = some (.next, ρ) := rfl
theorem ex_break (pos : Pos) : ex Φ P nm (.Break pos) ρ = some (.brk, ρ) := rfl
theorem retS_some (d : D) : retS ρ (some d) = some (.ret d, ρ) := rfl
theorem ex_ret (e : Expr) (pos : Pos) : ex Φ P nm (.Return (some e) pos) ρ = retS (freeze P pos.line ρ) (ev Φ e nm (freeze P pos.line ρ)) := rfl
theorem ok_ifS {α : Type} {a b : Bool} {x : Option α} (h1 : a = false) (h2 : b = true) : (if (!a && b) = true then x else none) = x := by subst h1; subst h2; rfl
theorem asgS_some {P : Pol} {nm : Names} {ρ : Rho} {x : Str} {d : D} (h1 : P.own.contains x = false) (h2 : stOk nm x = true) : asgS P nm ρ x (some d) = some (.next, put ρ x (.val d)) := ok_ifS h1 h2
theorem ex_asg (x : Str) (xp : Pos) (e : Expr) (pos : Pos) : ex Φ P nm (.Assign [.Name x xp] e pos) ρ = asgS P nm (freeze P pos.line ρ) x (ev Φ e nm (freeze P pos.line ρ)) := rfl
theorem augS_some {P : Pol} {nm : Names} {ρ : Rho} {x : Str} {a b : Int} (h1 : P.own.contains x = false) (h2 : stOk nm x = true) : augS P nm ρ x (some (.int a)) (some (.int b)) = some (.next, put ρ x (.val (.int (a + b)))) := ok_ifS h1 h2
theorem ex_aug (x : Str) (xp : Pos) (e : Expr) (pos : Pos) : ex Φ P nm (.AugAssign (.Name x xp) .Add e pos) ρ = augS P nm (freeze P pos.line ρ) x (getV (freeze P pos.line ρ) x) (ev Φ e nm (freeze P pos.line ρ)) := rfl
theorem appS_some {x : Str} {ds : List D} {d : D} (h : ds.length ≤ 1000000) : appS ρ x (some (.own ds)) (some [d]) = some (.next, put ρ x (.own (ds ++ [d]))) := if_pos h
theorem ex_app (x : Str) (xp apos cpos pos : Pos) (e : Expr) (h : (apos.endLine == cpos.line) = true) : ex Φ P nm (.Expr (.Call (.Attribute (.Name x xp) (Str.ofString "append") apos) [e] [] cpos) pos) ρ = appS (freeze P pos.line ρ) x ((freeze P pos.line ρ).lookup x) (evs Φ [e] nm (freeze P pos.line ρ)) :=
  if_pos (c := (([] : List Keyword).isEmpty && decide (Str.ofString "append" = Str.ofString "append") && decide ([e].length = 1) && (apos.endLine == cpos.line)) = true) (by rw [h, decide_eq_true rfl]; rfl)
noncomputable def forS (x : Str) (b : List Stmt) (src : Option (List D)) : Option (Fl × Rho) := forB P nm ρ x (exs Φ P nm b) src
theorem forS_some {Φ : Fns} {P : Pol} {nm : Names} {ρ : Rho} {x : Str} {b : List Stmt} {src : List D} (h1 : P.own.contains x = false) (h2 : stOk nm x = true) (h3 : src.all D.imm = true) : forS Φ P nm ρ x b (some src) = loopF x (exs Φ P nm b) src ρ :=
  if_pos (c := (!P.own.contains x && stOk nm x && src.all D.imm) = true) (by rw [h1, h2, h3]; rfl)
theorem ex_for (x : Str) (xp : Pos) (it : Expr) (b : List Stmt) (pos : Pos) : ex Φ P nm (.For (.Name x xp) it b [] pos) ρ = forS Φ P nm (freeze P pos.line ρ) x b (evI Φ it nm (freeze P pos.line ρ)) := rfl
theorem ex_while (t : Expr) (b : List Stmt) (pos : Pos) : ex Φ P nm (.While t b [] pos) ρ = loopW (evT Φ t nm) (exs Φ P nm b) P.fuel (freeze P pos.line ρ) := rfl

theorem lookup_putS (x y : String) (c : Cell) (w : Rho) : List.lookup (Str.ofString x) (put w (Str.ofString y) c) = if x = y then some c else List.lookup (Str.ofString x) w := by
  induction w with
  | nil => exact lookup_k x y c []
  | cons z r ih =>
    obtain ⟨n, e⟩ := z
    by_cases h : n = Str.ofString y
    · rw [show put ((n, e) :: r) (Str.ofString y) c = (Str.ofString y, c) :: r from if_pos h, lookup_k, List.lookup_cons, h, ofs_beq]
      by_cases hx : x = y
      · rw [if_pos hx, if_pos hx]
      · rw [if_neg hx, if_neg hx, beq_eq_false_iff_ne.mpr hx]
    · rw [show put ((n, e) :: r) (Str.ofString y) c = (n, e) :: put r (Str.ofString y) c from if_neg h, List.lookup_cons, List.lookup_cons, ih]
      by_cases hx : x = y
      · subst hx
        rw [beq_eq_false_iff_ne.mpr (fun e => h e.symm), if_pos rfl]
      · rw [if_neg hx, if_neg hx]
theorem getV_put (x y : String) (d : D) (w : Rho) : getV (put w (Str.ofString y) (.val d)) (Str.ofString x) = if x = y then some d else getV w (Str.ofString x) := by
  unfold getV
  rw [lookup_putS]
  by_cases h : x = y
  · rw [if_pos h, if_pos h]; rfl
  · rw [if_neg h, if_neg h]
theorem turn_next (k : Rho → Option (Fl × Rho)) : turn k (some (.next, ρ)) = k ρ := rfl
theorem lw_next (k : Rho → Option (Fl × Rho)) (z : Option (Fl × Rho)) : ifO (turn k (some (.next, ρ))) z (some true) = k ρ := rfl

-- expressions
theorem ev_const (c : Const) (k : Nat) (p : Pos) : ev Φ (.Constant c k p) nm ρ = constD c := rfl
theorem ev_name (x : Str) (p : Pos) : ev Φ (.Name x p) nm ρ = getV ρ x := rfl
theorem bin2_some (op : Operator) (a b : D) : bin2 op (some a) (some b) = binop op a b := rfl
theorem ev_bin (l r : Expr) (op : Operator) (p : Pos) : ev Φ (.BinOp l op r p) nm ρ = bin2 op (ev Φ l nm ρ) (ev Φ r nm ρ) := rfl
theorem negO_some (a : Int) : negO (some (.int a)) = some (.int (-a)) := rfl
theorem ev_neg (x : Expr) (p : Pos) : ev Φ (.UnaryOp .USub x p) nm ρ = negO (ev Φ x nm ρ) := rfl
noncomputable def ifE (b o : Expr) (c : Option Bool) : Option D := ifO (ev Φ b nm ρ) (ev Φ o nm ρ) c
theorem ifE_true (b o : Expr) : ifE Φ nm ρ b o (some true) = ev Φ b nm ρ := rfl
theorem ifE_false (b o : Expr) : ifE Φ nm ρ b o (some false) = ev Φ o nm ρ := rfl
theorem ev_if (t b o : Expr) (p : Pos) : ev Φ (.IfExp t b o p) nm ρ = ifE Φ nm ρ b o (evT Φ t nm ρ) := rfl
theorem ev_list (es : List Expr) (p : Pos) : ev Φ (.List es p) nm ρ = listO (evs Φ es nm ρ) := rfl
theorem ev_tuple (es : List Expr) (k : Nat) (p : Pos) : ev Φ (.Tuple es k p) nm ρ = tupO (evs Φ es nm ρ) := rfl
theorem listO_some {ds : List D} (h : ds.length ≤ cap) : listO (some ds) = some (.list ds) := if_pos h
theorem tupO_some {ds : List D} (h : ds.length ≤ cap) : tupO (some ds) = some (.tuple ds) := if_pos h
theorem cons2_some (d : D) (ds : List D) : cons2 (some d) (some ds) = some (d :: ds) := rfl
theorem evs_nil : evs Φ [] nm ρ = some [] := rfl
theorem evs_cons (e : Expr) (r : List Expr) : evs Φ (e :: r) nm ρ = cons2 (ev Φ e nm ρ) (evs Φ r nm ρ) := rfl
theorem cmp2_some (op : CmpOp) (a b : D) : cmp2 op (some a) (some b) = cmp op a b := rfl
theorem evT_cmp (l r : Expr) (op : CmpOp) (p : Pos) : evT Φ (.Compare l [op] [r] p) nm ρ = cmp2 op (ev Φ l nm ρ) (ev Φ r nm ρ) := rfl
theorem ev_cmp (l r : Expr) (op : CmpOp) (p : Pos) : ev Φ (.Compare l [op] [r] p) nm ρ = (cmp2 op (ev Φ l nm ρ) (ev Φ r nm ρ)).map .bool := rfl
theorem truthO_some (d : D) : truthO (some d) = truth d := rfl
theorem evT_name (x : Str) (p : Pos) : evT Φ (.Name x p) nm ρ = truthO (getV ρ x) := rfl
theorem evT_bin (l r : Expr) (op : Operator) (p : Pos) : evT Φ (.BinOp l op r p) nm ρ = truthO (bin2 op (ev Φ l nm ρ) (ev Φ r nm ρ)) := rfl
theorem evT_and (es : List Expr) (p : Pos) : evT Φ (.BoolOp .And es p) nm ρ = evA Φ es nm ρ := rfl
theorem evT_or (es : List Expr) (p : Pos) : evT Φ (.BoolOp .Or es p) nm ρ = evR Φ es nm ρ := rfl
theorem evT_not (e : Expr) (p : Pos) : evT Φ (.UnaryOp .Not e p) nm ρ = (evT Φ e nm ρ).map (!·) := rfl
noncomputable def andS (r : List Expr) (c : Option Bool) : Option Bool := ifO (evA Φ r nm ρ) (some false) c
noncomputable def orS (r : List Expr) (c : Option Bool) : Option Bool := ifO (some true) (evR Φ r nm ρ) c
theorem andS_true (r : List Expr) : andS Φ nm ρ r (some true) = evA Φ r nm ρ := rfl
theorem andS_false (r : List Expr) : andS Φ nm ρ r (some false) = some false := rfl
theorem orS_true (r : List Expr) : orS Φ nm ρ r (some true) = some true := rfl
theorem orS_false (r : List Expr) : orS Φ nm ρ r (some false) = evR Φ r nm ρ := rfl
theorem evA_nil : evA Φ [] nm ρ = some true := rfl
theorem evR_nil : evR Φ [] nm ρ = some false := rfl
theorem evA_cons (e : Expr) (r : List Expr) : evA Φ (e :: r) nm ρ = andS Φ nm ρ r (evT Φ e nm ρ) := rfl
theorem evR_cons (e : Expr) (r : List Expr) : evR Φ (e :: r) nm ρ = orS Φ nm ρ r (evT Φ e nm ρ) := rfl
theorem ev_call (f : Str) (fp : Pos) (args : List Expr) (p : Pos) : ev Φ (.Call (.Name f fp) args [] p) nm ρ = callF Φ f (nm.lookup f) (evs Φ args nm ρ) := rfl
theorem evT_call (f : Str) (fp : Pos) (args : List Expr) (p : Pos) : evT Φ (.Call (.Name f fp) args [] p) nm ρ = truthO (callF Φ f (nm.lookup f) (evs Φ args nm ρ)) := rfl
theorem callF_user {f : Str} {ds : List D} (h : builtinNames.contains f = false) : callF Φ f (some .globalImplicit) (some ds) = Φ f ds := if_neg (by rw [h]; exact Bool.false_ne_true)
theorem callF_bi {f : Str} {ds : List D} (h : builtinNames.contains f = true) : callF Φ f (some .globalImplicit) (some ds) = builtin? f ds := if_pos h
theorem slice4_some (a b c d : D) : slice4 (some a) (some b) (some c) (some d) = slice a b c d := rfl
theorem ev_slice (v : Expr) (lo hi st : Option Expr) (p q : Pos) : ev Φ (.Subscript v (.Slice lo hi st p) q) nm ρ = slice4 (ev Φ v nm ρ) (evO Φ lo nm ρ) (evO Φ hi nm ρ) (evO Φ st nm ρ) := rfl
theorem evO_none : evO Φ none nm ρ = some .none := rfl
theorem evO_some (e : Expr) : evO Φ (some e) nm ρ = ev Φ e nm ρ := rfl
theorem idxO_some (a b : D) : idxO (some a) (some b) = index a b := rfl
theorem ev_idx_name (v : Expr) (x : Str) (xp q : Pos) : ev Φ (.Subscript v (.Name x xp) q) nm ρ = idxO (ev Φ v nm ρ) (getV ρ x) := rfl
theorem ev_idx_const (v : Expr) (c : Const) (k : Nat) (xp q : Pos) : ev Φ (.Subscript v (.Constant c k xp) q) nm ρ = idxO (ev Φ v nm ρ) (constD c) := rfl
theorem ev_idx_bin (v l r : Expr) (op : Operator) (xp q : Pos) : ev Φ (.Subscript v (.BinOp l op r xp) q) nm ρ = idxO (ev Φ v nm ρ) (bin2 op (ev Φ l nm ρ) (ev Φ r nm ρ)) := rfl
theorem ev_idx_un (v e : Expr) (xp q : Pos) : ev Φ (.Subscript v (.UnaryOp .USub e xp) q) nm ρ = idxO (ev Φ v nm ρ) (negO (ev Φ e nm ρ)) := rfl
noncomputable def compS (elt : Expr) (ifs : List Expr) (x : Str) (sc : Scope) (src : Option (List D)) : Option D := src.bind (compV x 0 sc nm ρ (fun nm ρ => evA Φ ifs nm ρ) (fun nm ρ => ev Φ elt nm ρ))
theorem ev_comp (elt : Expr) (x : Str) (xp : Pos) (iter : Expr) (ifs : List Expr) (sc : Scope) (p : Pos) : ev Φ (.ListComp elt [⟨.Name x xp, iter, ifs, 0⟩] sc p) nm ρ = compS Φ nm ρ elt ifs x sc (evI Φ iter nm ρ) := rfl
theorem evI_name (x : Str) (p : Pos) : evI Φ (.Name x p) nm ρ = iterN (getV ρ x) := rfl
theorem evI_list (es : List Expr) (p : Pos) : evI Φ (.List es p) nm ρ = iterL (evs Φ es nm ρ) := rfl
theorem evI_slice (v : Expr) (lo hi st : Option Expr) (p q : Pos) : evI Φ (.Subscript v (.Slice lo hi st p) q) nm ρ = iterV (slice4 (ev Φ v nm ρ) (evO Φ lo nm ρ) (evO Φ hi nm ρ) (evO Φ st nm ρ)) := rfl
theorem evI_range (fp : Pos) (args : List Expr) (p : Pos) : evI Φ (.Call (.Name (Str.ofString "range") fp) args [] p) nm ρ = rangeO (nm.lookup (Str.ofString "range")) (evs Φ args nm ρ) :=
  if_pos (c := Str.ofString "range" = ("range" : Str)) (t := rangeO (nm.lookup (Str.ofString "range")) (evs Φ args nm ρ)) (e := none) rfl
theorem rangeO_some (ds : List D) : rangeO (some .globalImplicit) (some ds) = range? ds := rfl
end
end Mine
end
section
open PySem PyProof.Rows
set_option maxRecDepth 100000
set_option Elab.async false
namespace Mine

noncomputable def Ext (h h' : Heap) : Prop := ∀ b o, h.get? b = some o → h'.get? b = some o
theorem Ext.refl (h : Heap) : Ext h h := fun _ _ e => e
theorem Ext.trans {a b c : Heap} (x : Ext a b) (y : Ext b c) : Ext a c := fun i o e => y i o (x i o e)
theorem Ext.push (h : Heap) (o : Obj) : Ext h (h.push o) := fun _ _ e => Heap.get?_push_of_some o e
theorem Ext.pushR {h h' : Heap} (x : Ext h h') (o : Obj) : Ext h (h'.push o) := x.trans (Ext.push _ _)

/-- the state goes on: all objects stand, the counts of tokens rise -/
noncomputable def Kp (s s' : Shared) : Prop := ∃ h' tk, s' = { s with heap := h', toks := tk } ∧ Ext s.heap h'
theorem Kp.refl (s : Shared) : Kp s s := ⟨s.heap, s.toks, rfl, .refl _⟩
theorem Kp.trans {a b c : Shared} (x : Kp a b) (y : Kp b c) : Kp a c := by
  obtain ⟨h1, t1, rfl, e1⟩ := x
  obtain ⟨h2, t2, rfl, e2⟩ := y
  exact ⟨h2, t2, rfl, e1.trans e2⟩
theorem Kp.ext {a b : Shared} (x : Kp a b) : Ext a.heap b.heap := by
  obtain ⟨h1, t1, rfl, e1⟩ := x
  exact e1
theorem Kp.keeps {a b : Shared} (x : Kp a b) : Keeps a b := x
theorem Kp.mk {s : Shared} {h : Heap} {t : Nat} (e : Ext s.heap h) : Kp s { s with heap := h, toks := t } := ⟨h, t, rfl, e⟩
theorem Kp.tok {s : Shared} {t : Nat} : Kp s { s with toks := t } := ⟨s.heap, t, rfl, .refl _⟩

mutual
inductive Rep (Z : List Addr) (h : Heap) : Value → D → Prop
  | none : Rep Z h .none .none
  | bool (b : Bool) : Rep Z h (.bool b) (.bool b)
  | int (i : Int) (t : Tok) : Rep Z h (.int i t) (.int i)
  | str (x : Str) (t : Tok) : Rep Z h (.str x t) (.str x)
  | bytes (b : List UInt8) (t : Tok) : Rep Z h (.bytes b.toArray t) (.bytes b)
  | list {a : Addr} {vs : List Value} {ds : List D} : a ∉ Z → h.IsList a vs.toArray → RepAll Z h vs ds → Rep Z h (.ref a) (.list ds)
  | tuple {a : Addr} {vs : List Value} {ds : List D} : a ∉ Z → h.IsTuple a vs.toArray → RepAll Z h vs ds → Rep Z h (.ref a) (.tuple ds)
inductive RepAll (Z : List Addr) (h : Heap) : List Value → List D → Prop
  | nil : RepAll Z h [] []
  | cons {v : Value} {d : D} {vs : List Value} {ds : List D} : Rep Z h v d → RepAll Z h vs ds → RepAll Z h (v :: vs) (d :: ds)
end

mutual
theorem Rep.mono {Z Z' : List Addr} {h h' : Heap} (hx : ∀ b o, b ∉ Z → h.get? b = some o → h'.get? b = some o ∧ b ∉ Z') : ∀ {v : Value} {d : D}, Rep Z h v d → Rep Z' h' v d
  | _, _, .none => .none
  | _, _, .bool b => .bool b
  | _, _, .int i t => .int i t
  | _, _, .str x t => .str x t
  | _, _, .bytes b t => .bytes b t
  | _, _, .list hz hl r => by
    obtain ⟨o, ho, hc⟩ := hl
    exact .list (hx _ _ hz ho).2 ⟨o, (hx _ _ hz ho).1, hc⟩ (RepAll.mono hx r)
  | _, _, .tuple hz hl r => by
    obtain ⟨o, ho, hc⟩ := hl
    exact .tuple (hx _ _ hz ho).2 ⟨o, (hx _ _ hz ho).1, hc⟩ (RepAll.mono hx r)
theorem RepAll.mono {Z Z' : List Addr} {h h' : Heap} (hx : ∀ b o, b ∉ Z → h.get? b = some o → h'.get? b = some o ∧ b ∉ Z') : ∀ {vs : List Value} {ds : List D}, RepAll Z h vs ds → RepAll Z' h' vs ds
  | _, _, .nil => .nil
  | _, _, .cons a r => .cons (Rep.mono hx a) (RepAll.mono hx r)
end
theorem Rep.ext {Z : List Addr} {h h' : Heap} {v : Value} {d : D} (r : Rep Z h v d) (e : Ext h h') : Rep Z h' v d := r.mono fun b o hz ho => ⟨e b o ho, hz⟩
theorem RepAll.ext {Z : List Addr} {h h' : Heap} {vs : List Value} {ds : List D} (r : RepAll Z h vs ds) (e : Ext h h') : RepAll Z h' vs ds := r.mono fun b o hz ho => ⟨e b o ho, hz⟩
theorem Rep.sub {Z Z' : List Addr} {h : Heap} {v : Value} {d : D} (r : Rep Z h v d) (e : ∀ b, b ∈ Z' → b ∈ Z) : Rep Z' h v d := r.mono fun b _ hz ho => ⟨ho, fun hb => hz (e b hb)⟩
theorem RepAll.sub {Z Z' : List Addr} {h : Heap} {vs : List Value} {ds : List D} (r : RepAll Z h vs ds) (e : ∀ b, b ∈ Z' → b ∈ Z) : RepAll Z' h vs ds := r.mono fun b _ hz ho => ⟨ho, fun hb => hz (e b hb)⟩

theorem RepAll.length {Z : List Addr} {h : Heap} : ∀ {vs : List Value} {ds : List D}, RepAll Z h vs ds → vs.length = ds.length
  | _, _, .nil => rfl
  | _, _, .cons _ r => by rw [List.length_cons, List.length_cons, r.length]
theorem RepAll.append {Z : List Addr} {h : Heap} : ∀ {vs us : List Value} {ds es : List D}, RepAll Z h vs ds → RepAll Z h us es → RepAll Z h (vs ++ us) (ds ++ es)
  | _, _, _, _, .nil, r' => r'
  | _, _, _, _, .cons a r, r' => .cons a (r.append r')
theorem RepAll.get {Z : List Addr} {h : Heap} : ∀ {vs : List Value} {ds : List D}, RepAll Z h vs ds → ∀ {i : Nat} {d : D}, ds[i]? = some d → ∃ v, vs[i]? = some v ∧ Rep Z h v d
  | _, _, .nil, i, _, e => by simp at e
  | _, _, .cons a r, 0, _, e => by
    simp only [List.length_cons, Nat.zero_lt_succ, getElem?_pos, List.getElem_cons_zero, Option.some.injEq] at e
    subst e
    exact ⟨_, rfl, a⟩
  | _, _, .cons a r, i + 1, _, e => by
    simp only [List.getElem?_cons_succ] at e ⊢
    exact r.get e
theorem RepAll.get' {Z : List Addr} {h : Heap} : ∀ {vs : List Value} {ds : List D}, RepAll Z h vs ds → ∀ {i : Nat} {v : Value}, vs[i]? = some v → ∃ d, ds[i]? = some d ∧ Rep Z h v d
  | _, _, .nil, i, _, e => by simp at e
  | _, _, .cons a r, 0, _, e => by
    simp only [List.length_cons, Nat.zero_lt_succ, getElem?_pos, List.getElem_cons_zero, Option.some.injEq] at e
    subst e
    exact ⟨_, rfl, a⟩
  | _, _, .cons a r, i + 1, _, e => by
    simp only [List.getElem?_cons_succ] at e ⊢
    exact r.get' e
theorem RepAll.pick {Z : List Addr} {h : Heap} {vs : List Value} {ds : List D} (r : RepAll Z h vs ds) : ∀ is : List Nat, RepAll Z h (is.filterMap (vs[·]?)) (is.filterMap (ds[·]?))
  | [] => .nil
  | i :: is => by
    rw [List.filterMap_cons, List.filterMap_cons]
    cases hd : ds[i]? with
    | none =>
      have hv : vs[i]? = none := by
        rw [List.getElem?_eq_none_iff] at hd ⊢
        rw [r.length]; exact hd
      rw [hv]
      exact r.pick is
    | some d =>
      obtain ⟨v, hv, hr⟩ := r.get hd
      rw [hv]
      exact .cons hr (r.pick is)

theorem int?_i {d : D} {i : Int} (h : d.int? = some i) : d = .int i := by
  cases d <;> first | exact no h | (cases some_i h; rfl)
theorem str?_i {d : D} {i : Str} (h : d.str? = some i) : d = .str i := by
  cases d <;> first | exact no h | (cases some_i h; rfl)
theorem ints?_eq {ds : List D} : ∀ {is : List Int}, ints? ds = some is → ds = is.map .int := by
  induction ds with
  | nil => intro is e; cases some_i e; rfl
  | cons d r ih =>
    intro is e
    obtain ⟨i, hi, e⟩ := bnd e
    obtain ⟨js, hj, rfl⟩ := mpd e
    rw [ih hj, int?_i hi]; rfl
theorem strs?_eq {ds : List D} : ∀ {is : List Str}, strs? ds = some is → ds = is.map .str := by
  induction ds with
  | nil => intro is e; cases some_i e; rfl
  | cons d r ih =>
    intro is e
    obtain ⟨i, hi, e⟩ := bnd e
    obtain ⟨js, hj, rfl⟩ := mpd e
    rw [ih hj, str?_i hi]; rfl
theorem ints?_map (is : List Int) : ints? (is.map .int) = some is := by
  induction is with
  | nil => rfl
  | cons i r ih =>
    show (ints? (r.map .int)).map (i :: ·) = _
    rw [ih]; rfl
theorem strs?_map (is : List Str) : strs? (is.map .str) = some is := by
  induction is with
  | nil => rfl
  | cons i r ih =>
    show (strs? (r.map .str)).map (i :: ·) = _
    rw [ih]; rfl
theorem RepAll.intsM {Z : List Addr} {h : Heap} : ∀ {is : List Int} {vs : List Value}, RepAll Z h vs (is.map .int) → IntsAre vs is := by
  intro is
  induction is with
  | nil => intro vs r; cases r; exact .nil
  | cons i is ih =>
    intro vs r
    cases r with
    | cons a r =>
      cases a
      exact .cons _ _ (ih r)
theorem RepAll.strsM {Z : List Addr} {h : Heap} : ∀ {is : List Str} {vs : List Value}, RepAll Z h vs (is.map .str) → StrsAre vs is := by
  intro is
  induction is with
  | nil => intro vs r; cases r; exact .nil
  | cons i is ih =>
    intro vs r
    cases r with
    | cons a r =>
      cases a
      exact .cons _ _ (ih r)
theorem RepAll.ints {Z : List Addr} {h : Heap} {vs : List Value} {ds : List D} {is : List Int} (r : RepAll Z h vs ds) (e : ints? ds = some is) : IntsAre vs is := by
  rw [ints?_eq e] at r; exact r.intsM
theorem RepAll.strs {Z : List Addr} {h : Heap} {vs : List Value} {ds : List D} {is : List Str} (r : RepAll Z h vs ds) (e : strs? ds = some is) : StrsAre vs is := by
  rw [strs?_eq e] at r; exact r.strsM
theorem capL : cap = sizeLine := by rfl

/-- the mutable addresses lie in the heap -/
noncomputable def Zin (Z : List Addr) (h : Heap) : Prop := ∀ z ∈ Z, ∃ o, h.get? z = some o
theorem Zin.new {Z : List Addr} {h : Heap} (x : Zin Z h) : h.objs.size ∉ Z := fun hm => by
  obtain ⟨o, ho⟩ := x _ hm
  exact Nat.lt_irrefl _ (Heap.lt_size ho)
theorem Zin.ext {Z : List Addr} {h h' : Heap} (x : Zin Z h) (e : Ext h h') : Zin Z h' := fun z hz => let ⟨o, ho⟩ := x z hz; ⟨o, e _ _ ho⟩

/-- room for calls and C frames -/
noncomputable def Room (A : Around) (n : Nat) : Prop := A.handled = none ∧ A.depth + n ≤ 900 ∧ A.units + 8 * n ≤ 9000
theorem Room.le {A : Around} {n m : Nat} (r : Room A n) (h : m ≤ n) : Room A m := ⟨r.1, by have := r.2.1; omega, by have := r.2.2; omega⟩
theorem Room.deeper {A : Around} {n : Nat} (r : Room A (n + 1)) (env : Env) : Room (A.deeper env) n :=
  ⟨r.1, by have := r.2.1; show A.depth + 1 + n ≤ 900; omega, by have := r.2.2; show A.units + 3 + 8 * n ≤ 9000; omega⟩
theorem Room.units {A : Around} {n : Nat} (r : Room A n) : A.units + 64 < cLine := by have := r.2.2; show A.units + 64 < 9900; omega

/-- what an operation gives -/
noncomputable abbrev Gv (prog : Program) (w : World) (A : Around) (Z : List Addr) (s : Shared) (t : Sem Value) (d : D) : Prop :=
  ∀ E, wpAny (model prog w) A t (fun v s' => Kp s s' ∧ Rep Z s'.heap v d) E s

section
variable {prog : Program} {w : World} {A : Around} {E : Value → Shared → Prop} {s : Shared} {Z : List Addr}

theorem rep_newList {h : Heap} {vs : List Value} {ds : List D} (zi : Zin Z h) (r : RepAll Z h vs ds) :
    Rep Z (h.push { cls := .type "list", data := .seq vs.toArray }) (.ref h.objs.size) (.list ds) :=
  .list zi.new ⟨_, Heap.get?_push_size _ rfl, rfl, _, rfl⟩ (r.ext (Ext.push _ _))
theorem rep_newTuple {h : Heap} {vs : List Value} {ds : List D} (zi : Zin Z h) (r : RepAll Z h vs ds) :
    Rep Z (h.push { cls := .type "tuple", data := .seq vs.toArray }) (.ref h.objs.size) (.tuple ds) :=
  .tuple zi.new ⟨_, Heap.get?_push_size _ rfl, rfl, _, rfl⟩ (r.ext (Ext.push _ _))

theorem gv_newList {vs : List Value} {ds : List D} (zi : Zin Z s.heap) (r : RepAll Z s.heap vs ds) (hs : ds.length ≤ cap) : Gv prog w A Z s (newList vs) (.list ds) := fun E =>
  wpAny_newObj_type ⟨.mk (Ext.push _ _), rep_newList zi r⟩ (by show vs.toArray.size ≤ sizeLine; rw [List.size_toArray, r.length, ← capL]; exact hs)
theorem gv_newTuple {vs : List Value} {ds : List D} (zi : Zin Z s.heap) (r : RepAll Z s.heap vs ds) (hs : ds.length ≤ cap) : Gv prog w A Z s (newTuple vs) (.tuple ds) := fun E =>
  wpAny_newObj_type ⟨.mk (Ext.push _ _), rep_newTuple zi r⟩ (by show vs.toArray.size ≤ sizeLine; rw [List.size_toArray, r.length, ← capL]; exact hs)

theorem small_lo {i : Int} (h : small i = true) : -(2 ^ 60) < i ∧ i < 2 ^ 60 := by
  unfold small at h
  simpa using h

theorem txt_mul (x : Str) {n : Int} (h1 : x.cps.size = 1) (h0 : 0 ≤ n) : Txt.mul x n = ⟨(rep n.toNat x.cps.toList).toArray⟩ := by
  have fl : ∀ (k : Nat) (acc : Array Nat), (List.replicate k x.cps).foldl (· ++ ·) acc = (acc.toList ++ rep k x.cps.toList).toArray := by
    intro k
    induction k with
    | zero => intro acc; simp [rep]
    | succ k ih =>
      intro acc
      rw [List.replicate_succ, List.foldl_cons, ih]
      simp [rep, List.replicate_succ]
  unfold Txt.mul
  by_cases hn : n < 1
  · have : n.toNat = 0 := by omega
    rw [if_pos hn, this]
    rfl
  · rw [if_neg hn]
    split
    · rename_i hc
      have : n = 1 := by
        simp only [Str.length, h1, Bool.or_eq_true, beq_iff_eq] at hc
        omega
      subst this
      obtain ⟨c⟩ := x
      simp [rep]
    · rw [fl]; simp

theorem gv_add {l b : Addr} {vs us : List Value} {ds es : List D} (zi : Zin Z s.heap) (hl : s.heap.IsList l vs.toArray) (hb : s.heap.IsList b us.toArray) (r : RepAll Z s.heap vs ds) (r' : RepAll Z s.heap us es)
    (hs : ds.length + es.length ≤ cap) : Gv prog w A Z s (binaryOp .Add (.ref l) (.ref b)) (.list (ds ++ es)) := by
  intro E
  obtain ⟨⟨cls, dd, data, sl⟩, ho, hc, n, hd⟩ := id hl
  obtain ⟨⟨cls2, dd2, data2, sl2⟩, ho2, hc2, n2, hd2⟩ := id hb
  simp only at hc hd hc2 hd2
  subst hc hd hc2 hd2
  have e : vs.toArray ++ us.toArray = (vs ++ us).toArray := by simp
  refine concat_meets ⟨_, ho, rfl⟩ ⟨_, ho2, rfl⟩ noFill_list_add seq_list_add PySem.F.slot_list_add PySem.F.entry_list_add (PySem.F.args_list_add_2 _ _)
    (list_addW l b vs.toArray us.toArray n n2 dd dd2 sl sl2 (by rw [List.size_toArray, List.size_toArray, r.length, r'.length, ← capL]; exact hs)) ⟨ho, ho2, ?_⟩
  rw [e]
  exact ⟨.mk (Ext.push _ _), rep_newList zi (r.append r')⟩

theorem add_ok {v u : Value} {a b d : D} (zi : Zin Z s.heap) (ra : Rep Z s.heap v a) (rb : Rep Z s.heap u b) (e : addD a b = some d) : Gv prog w A Z s (binaryOp .Add v u) d := by
  intro E
  cases ra with
  | int i t =>
    cases rb with
    | int j t' => cases some_i e; exact wpAny_add_int ⟨.tok, .int _ _⟩
    | _ => exact no e
  | str x t =>
    cases rb with
    | str y t' =>
      obtain ⟨h, rfl⟩ := ifs e
      exact add_str (fun _ _ => ⟨.tok, .str _ _⟩) (by rw [← capL]; exact h)
    | _ => exact no e
  | bytes x t =>
    cases rb with
    | bytes y t' =>
      obtain ⟨h, rfl⟩ := ifs e
      refine PySem.W.KBy.add_bytes (by rw [List.size_toArray, List.size_toArray] <;> exact h) fun t' k => ⟨.tok, ?_⟩
      have r := Rep.bytes (Z := Z) (h := s.heap) (x ++ y) t'
      rw [List.append_toArray] <;> exact r
    | _ => exact no e
  | list hz hl r =>
    cases rb with
    | list hz' hl' r' =>
      obtain ⟨h, rfl⟩ := ifs e
      exact gv_add zi hl hl' r r' h E
    | _ => exact no e
  | _ => exact no e
theorem mul_ok {v u : Value} {a b d : D} (zi : Zin Z s.heap) (ra : Rep Z s.heap v a) (rb : Rep Z s.heap u b) (e : mulD a b = some d) : Gv prog w A Z s (binaryOp .Mult v u) d := by
  intro E
  cases rb with
  | int j t' =>
    cases ra with
    | int i t =>
      obtain ⟨h, rfl⟩ := ifs e
      obtain ⟨h1, h2⟩ := Bool.and_eq_true_iff.mp h
      have h1 := small_lo h1
      have h2 := small_lo h2
      exact mul_int ⟨.tok, .int _ _⟩ (.of_left (intBits_le (k := 64) (by omega)))
    | str x t =>
      obtain ⟨h, rfl⟩ := ifs e
      have h1 : x.cps.size = 1 := h.1
      refine SB.mul (x := x) ⟨by rw [Bool.or_eq_false_iff, decide_eq_false_iff_not, decide_eq_false_iff_not]; constructor <;> omega, fun _ _ => ?_, fun _ _ => ?_⟩ fun t' k => ⟨.tok, ?_⟩
      · show ¬ ((x.cps.size : Int) > (2 ^ 63 - 1) / j)
        have := Int.le_ediv_of_mul_le (a := 1) (b := (2 ^ 63 - 1 : Int)) (c := j) (by omega) (by omega)
        omega
      · show Builtin.Str.tooLong (x.cps.size * j.toNat) = false
        unfold Builtin.Str.tooLong
        rw [h1]
        refine decide_eq_false ?_
        show ¬ (1 * j.toNat > 2 ^ 24)
        omega
      · have e : Txt.mul x j = ⟨(rep j.toNat x.cps.toList).toArray⟩ := txt_mul x h1 h.2.1
        rw [e]
        exact .str _ _
    | _ => exact no e
  | _ => exact no e
theorem dec_and {p q : Prop} [Decidable p] [Decidable q] (h : (decide p && decide q) = true) : p ∧ q := by
  obtain ⟨h1, h2⟩ := Bool.and_eq_true_iff.mp h
  exact ⟨of_decide_eq_true h1, of_decide_eq_true h2⟩
theorem dec_and' {b : Bool} {q : Prop} [Decidable q] (h : (b && decide q) = true) : b = true ∧ q := by
  obtain ⟨h1, h2⟩ := Bool.and_eq_true_iff.mp h
  exact ⟨h1, of_decide_eq_true h2⟩
theorem ii_ok {f : Int → Int → Option D} {op : Operator} {v u : Value} {a b d : D} (ra : Rep Z s.heap v a) (rb : Rep Z s.heap u b) (e : ii f a b = some d) (hf : ∀ i j t t', f i j = some d → Gv prog w A Z s (binaryOp op (.int i t) (.int j t')) d) : Gv prog w A Z s (binaryOp op v u) d := by
  obtain ⟨i, j, rfl, rfl, e⟩ := ii_i e
  cases ra with | int _ t => cases rb with | int _ t' => exact hf _ _ _ _ e
theorem ifT {c : Prop} [Decidable c] {x d : D} {t : Sem Value} (e : (if c then some x else none) = some d) (h : c → ∀ E, wpAny (model prog w) A t (fun v s' => Kp s s' ∧ Rep Z s'.heap v x) E s) : Gv prog w A Z s t d := by
  obtain ⟨hc, rfl⟩ := ifs e
  exact h hc
theorem binop_ok {op : Operator} {v u : Value} {a b d : D} (zi : Zin Z s.heap) (ra : Rep Z s.heap v a) (rb : Rep Z s.heap u b) (e : binop op a b = some d) : Gv prog w A Z s (binaryOp op v u) d := by
  cases op with
  | Add => exact add_ok zi ra rb e
  | Mult => exact mul_ok zi ra rb e
  | Sub => exact ii_ok ra rb e fun i j t t' e E => by cases some_i e; exact sub_int ⟨.tok, .int _ _⟩
  | BitAnd => exact ii_ok ra rb e fun i j t t' e E => by cases some_i e; exact and_int ⟨.tok, .int _ _⟩
  | Mod => exact ii_ok ra rb e fun i j t t' e => ifT e fun h E => mod_int' h ⟨.tok, .int _ _⟩
  | RShift => exact ii_ok ra rb e fun i j t t' e => ifT e fun h E => rshift_int h ⟨.tok, .int _ _⟩
  | FloorDiv => exact ii_ok ra rb e fun i j t t' e => ifT e fun h E => floordiv_int (dec_and h).1 ⟨.tok, .int _ _⟩ (.inl (PyProof.noPylong_small (dec_and h).2))
  | Pow =>
    exact ii_ok ra rb e fun i j t t' e => ifT e fun h E => by
      have h1 := small_lo (dec_and' (dec_and' h).1).1
      have h3 := (dec_and' h).2
      exact pow_int_small (dec_and' (dec_and' h).1).2 (by omega) (by omega) ⟨.tok, .int _ _⟩
  | LShift =>
    exact ii_ok ra rb e fun i j t t' e => ifT e fun h E => by
      have h1 := small_lo (dec_and' (dec_and' h).1).1
      have h3 := (dec_and' h).2
      exact lshift_int_small (dec_and' (dec_and' h).1).2 (by omega) (by omega) ⟨.tok, .int _ _⟩
  | _ => exact no e
end
end Mine
end
section
open PySem PyProof.Rows
set_option maxRecDepth 100000
set_option Elab.async false
namespace Mine
section
variable {prog : Program} {w : World} {A : Around} {E : Value → Shared → Prop} {s : Shared} {Z : List Addr}

/-- what a test gives -/
noncomputable abbrev Gb (prog : Program) (w : World) (A : Around) (s : Shared) (t : Sem Bool) (b : Bool) : Prop :=
  ∀ E, wpAny (model prog w) A t (fun c s' => Kp s s' ∧ c = b) E s

/-- both answers of a comparison -/
noncomputable abbrev Eqs (prog : Program) (w : World) (A : Around) (s : Shared) (E : Value → Shared → Prop) (v u : Value) (c : Bool) : Prop :=
  wpAny (model prog w) A (compareOp .Eq v u) (fun r s' => s' = s ∧ r = .bool c) E s ∧ wpAny (model prog w) A (compareOp .NotEq v u) (fun r s' => s' = s ∧ r = .bool (!c)) E s
theorem eqL_ok {a b : Addr} {vs us : List Value} {xs ys : List D} {c : Bool} (hl : s.heap.IsList a vs.toArray) (r : RepAll Z s.heap vs xs) (hl' : s.heap.IsList b us.toArray) (r' : RepAll Z s.heap us ys) (rm : Room A 0) (e : eqL xs ys = some c) :
    Eqs prog w A s E (.ref a) (.ref b) c := by
  obtain ⟨x, hx, e⟩ := bnd e
  obtain ⟨y, hy, rfl⟩ := mpd e
  exact ⟨W.ke_eq_ints hl hl' (r.ints hx) (r'.ints hy) rm.units ⟨rfl, rfl⟩, W.ke_ne_ints hl hl' (r.ints hx) (r'.ints hy) rm.units ⟨rfl, rfl⟩⟩
theorem beq_dec {α : Type} [BEq α] [LawfulBEq α] [DecidableEq α] (a b : α) : (a == b) = decide (a = b) := by
  by_cases h : a = b
  · rw [decide_eq_true h, h, beq_self_eq_true]
  · rw [decide_eq_false h, beq_eq_false_iff_ne.mpr h]
theorem bne_dec {α : Type} [BEq α] [LawfulBEq α] [DecidableEq α] (a b : α) : (a != b) = !decide (a = b) := by rw [bne, beq_dec]
theorem eqD_ok {v u : Value} {a b : D} {c : Bool} (ra : Rep Z s.heap v a) (rb : Rep Z s.heap u b) (rm : Room A 0) (e : eqD a b = some c) : Eqs prog w A s E v u c := by
  cases ra with
  | int i t =>
    cases rb with
    | int j t' => cases some_i e; exact ⟨eq_int ⟨rfl, congrArg Value.bool (beq_dec _ _)⟩, ne_int ⟨rfl, congrArg Value.bool (bne_dec _ _)⟩⟩
    | _ => exact no e
  | str i t =>
    cases rb with
    | str j t' => cases some_i e; exact ⟨eq_str ⟨rfl, congrArg Value.bool (beq_dec _ _)⟩, ne_str ⟨rfl, congrArg Value.bool (bne_dec _ _)⟩⟩
    | _ => exact no e
  | bytes i t =>
    cases rb with
    | bytes j t' =>
      cases some_i e
      refine ⟨W.eq_bytes ⟨rfl, ?_⟩, W.ne_bytes ⟨rfl, ?_⟩⟩ <;> (by_cases h : i = j <;> simp [h])
    | _ => exact no e
  | list hz hl r =>
    cases rb with
    | list hz' hl' r' => exact eqL_ok hl r hl' r' rm e
    | _ => exact no e
  | _ => exact no e

theorem ci_ok {f : Int → Int → Bool} {op : CmpOp} {v u : Value} {a b : D} {c : Bool} (ra : Rep Z s.heap v a) (rb : Rep Z s.heap u b) (e : ci f a b = some c)
    (hf : ∀ i j t t', wpAny (model prog w) A (compareOp op (.int i t) (.int j t')) (fun r s' => s' = s ∧ r = .bool (f i j)) E s) : wpAny (model prog w) A (compareOp op v u) (fun r s' => s' = s ∧ r = .bool c) E s := by
  cases ra <;> first | exact no e | skip
  cases rb <;> first | exact no e | skip
  cases some_i e; exact hf _ _ _ _
theorem cmp_ok {op : CmpOp} {v u : Value} {a b : D} {c : Bool} (ra : Rep Z s.heap v a) (rb : Rep Z s.heap u b) (rm : Room A 0) (e : cmp op a b = some c) :
    wpAny (model prog w) A (compareOp op v u) (fun r s' => s' = s ∧ r = .bool c) E s := by
  cases op with
  | Eq => exact (eqD_ok ra rb rm e).1
  | NotEq =>
    obtain ⟨c', he, rfl⟩ := mpd e
    exact (eqD_ok ra rb rm he).2
  | Lt => exact ci_ok ra rb e fun _ _ _ _ => lt_int ⟨rfl, rfl⟩
  | LtE => exact ci_ok ra rb e fun _ _ _ _ => le_int ⟨rfl, rfl⟩
  | Gt => exact ci_ok ra rb e fun _ _ _ _ => gt_int ⟨rfl, rfl⟩
  | GtE => exact ci_ok ra rb e fun _ _ _ _ => ge_int ⟨rfl, rfl⟩
  | _ => exact no e

theorem truth_ok {v : Value} {d : D} {b : Bool} (r : Rep Z s.heap v d) (e : truth d = some b) : Gb prog w A s (truthy v) b := by
  intro E
  cases r with
  | int i t =>
    cases some_i e
    refine truthy_int (Q := fun c s' => Kp s s' ∧ c = decide (i ≠ 0)) ⟨.refl _, ?_⟩
    by_cases h : i = 0 <;> simp [h]
  | bool c =>
    cases some_i e
    exact wpAny_truthy_bool ⟨.refl _, rfl⟩
  | _ => exact no e

theorem neg_ok {i : Int} {t : Tok} : Gv prog w A Z s (unaryOp .USub (.int i t)) (.int (-i)) := fun E => neg_int ⟨.tok, .int _ _⟩

theorem part_ok {v : Value} {d : D} {p : Option Int} (r : Rep Z s.heap v d) (e : part? d = some p) : IsPart v p := by
  cases r with
  | none => cases some_i e; exact .none
  | int i t =>
    obtain ⟨_, rfl⟩ := ifs e
    exact .int ..
  | _ => exact no e

theorem slicePick_pick (vs : List Value) (lo hi st : Option Int) : slicePick vs.toArray lo hi st = (pickL vs lo hi st).toArray := by
  unfold slicePick pickL
  simp

theorem pick_str (x : Str) (lo hi : Option Int) : ((Builtin.Str.strSliceIndices lo hi 1 x.length).filterMap (x.cps[·]?)).toArray = (pickL x.cps.toList lo hi none).toArray := by
  congr 1
  unfold pickL
  have e : Builtin.Str.strSliceIndices lo hi 1 x.length = sliceRange (sliceBounds lo hi none x.cps.toList.length).1 (sliceBounds lo hi none x.cps.toList.length).2.1 (sliceBounds lo hi none x.cps.toList.length).2.2 := by
    have : x.cps.toList.length = x.length := by simp [Str.length]
    rw [this]
    rfl
  rw [e]
  congr 1
  funext i
  simp

theorem pickL_none {α : Type} (xs : List α) (lo hi : Option Int) : pickL xs lo hi none = (xs.drop (W.kms_lo lo xs.length)).take (W.kms_hi hi xs.length - W.kms_lo lo xs.length) := by
  unfold pickL
  rw [W.kms_bounds]
  simp only
  rw [sliceRange_one]
  have := pick_run xs.toArray (W.kms_lo lo xs.length) (W.kms_hi hi xs.length - W.kms_lo lo xs.length)
  simpa using this
theorem pickL_length_le {α : Type} (xs : List α) (lo hi : Option Int) : (pickL xs lo hi none).length ≤ xs.length := by
  rw [pickL_none, List.length_take, List.length_drop]
  omega
theorem slicePicked_length (x : Str) (l u : Option (Int × Tok)) : (slicePicked x l u none).length = (W.kms_hi (u.map (·.1)) x.length - W.kms_lo (l.map (·.1)) x.length) := by
  have e : slicePicked x l u none = sliceRange (sliceBounds (l.map (·.1)) (u.map (·.1)) none x.length).1 (sliceBounds (l.map (·.1)) (u.map (·.1)) none x.length).2.1 (sliceBounds (l.map (·.1)) (u.map (·.1)) none x.length).2.2 := rfl
  rw [e, W.kms_bounds]
  simp only
  rw [sliceRange_one]
  simp

theorem gv_slice_str {x : Str} {t : Tok} {sl : Addr} {ol oh : Value} {lo hi : Option Int} (pl : IsPart ol lo) (ph : IsPart oh hi) (hs : s.heap.IsSliceOf sl ol oh .none) (hc : x.length ≤ cap) :
    Gv prog w A Z s (getItem (.str x t) (.ref sl)) (.str ⟨(pickL x.cps.toList lo hi none).toArray⟩) := by
  intro E
  obtain ⟨o, ho, hcl, hd⟩ := hs
  have hn : x.cps.toList.length = x.length := by simp [Str.length]
  have fin : ∀ (l u : Option (Int × Tok)), l.map (·.1) = lo → u.map (·.1) = hi → (sliceMade x t l u none).post (fun v s' => Kp s s' ∧ Rep Z s'.heap v (.str ⟨(pickL x.cps.toList lo hi none).toArray⟩)) s := by
    intro l u hl hu
    unfold sliceMade
    subst hl hu
    have e1 := pick_str x (l.map (·.1)) (u.map (·.1))
    split
    · rename_i hw
      simp only [Option.map_none, Option.getD_none, Bool.and_eq_true, beq_iff_eq, true_and] at hw
      rw [slicePicked_length] at hw
      refine ⟨.refl _, ?_⟩
      have e2 : (⟨(pickL x.cps.toList (l.map (·.1)) (u.map (·.1)) none).toArray⟩ : Str) = x := by
        obtain ⟨c⟩ := x
        rw [pickL_none, hn]
        have h1 : W.kms_lo (l.map (·.1)) (Str.mk c).length = 0 ∨ (Str.mk c).length = 0 := by
          have h2 : W.kms_hi (u.map (·.1)) (Str.mk c).length ≤ (Str.mk c).length := by
            unfold W.kms_hi
            split
            · exact Nat.le_refl _
            · split <;> omega
          omega
        have h3 : W.kms_lo (l.map (·.1)) (Str.mk c).length = 0 := by
          rcases h1 with h1 | h1
          · exact h1
          · rw [h1]
            unfold W.kms_lo
            split
            · rfl
            · split <;> omega
        rw [h3] at hw ⊢
        simp only [Nat.sub_zero, List.drop_zero] at hw ⊢
        rw [hw, ← hn, List.take_length]
      rw [e2]
      exact .str _ _
    · show _ ∧ _
      have e3 : (⟨((slicePicked x l u none).filterMap (x.cps[·]?)).toArray⟩ : Str) = ⟨(pickL x.cps.toList (l.map (·.1)) (u.map (·.1)) none).toArray⟩ := congrArg Str.mk e1
      rw [e3]
      refine ⟨?_, .tok, .str _ _⟩
      show (pickL x.cps.toList (l.map (·.1)) (u.map (·.1)) none).toArray.size ≤ sizeLine
      rw [List.size_toArray, ← capL]
      exact Nat.le_trans (pickL_length_le _ _ _) (by rw [hn]; exact hc)
  cases pl with
  | none => cases ph with
    | none => exact wpAny_getItem_str_slice (l := none) (u := none) (st := none) ⟨o, ho, hcl, hd⟩ rfl (fin _ _ rfl rfl)
    | int i t' => exact wpAny_getItem_str_slice (l := none) (u := some (i, t')) (st := none) ⟨o, ho, hcl, hd⟩ rfl (fin _ _ rfl rfl)
  | int i t' => cases ph with
    | none => exact wpAny_getItem_str_slice (l := some (i, t')) (u := none) (st := none) ⟨o, ho, hcl, hd⟩ rfl (fin _ _ rfl rfl)
    | int i' t'' => exact wpAny_getItem_str_slice (l := some (i, t')) (u := some (i', t'')) (st := none) ⟨o, ho, hcl, hd⟩ rfl (fin _ _ rfl rfl)

theorem gv_slice_bytes {b : List UInt8} {t : Tok} {sl : Addr} {ol oh : Value} {lo hi : Option Int} (pl : IsPart ol lo) (ph : IsPart oh hi) (hs : s.heap.IsSliceOf sl ol oh .none) (hc : b.length ≤ cap) :
    Gv prog w A Z s (getItem (.bytes b.toArray t) (.ref sl)) (.bytes (pickL b lo hi none)) := by
  intro E
  have e : W.KBy.picked b.toArray lo hi = (pickL b lo hi none).toArray := by
    unfold W.KBy.picked Builtin.Bytes.sliced pickL
    simp
  refine getItem_meets (W.typeIs_bytes _ _ t) (by decide) W.FB.slot_bytes_getitem W.FB.entry_bytes_getitem (W.FB.args_bytes_getitem_2 _ _) (W.KBc.meets_slice2 b.toArray t sl pl ph) ⟨hs, ?_, fun t' k => ?_⟩
  · rw [e, List.size_toArray, ← capL]
    exact Nat.le_trans (pickL_length_le _ _ _) hc
  · rw [e]
    exact ⟨.tok, .bytes _ _⟩

theorem gv_slice {v ol oh os : Value} {d dl dh ds r : D} {sl : Addr} (zi : Zin Z s.heap) (rv : Rep Z s.heap v d) (rl : Rep Z s.heap ol dl) (rh : Rep Z s.heap oh dh) (rs : Rep Z s.heap os ds)
    (hs : s.heap.IsSliceOf sl ol oh os) (e : slice d dl dh ds = some r) : Gv prog w A Z s (getItem v (.ref sl)) r := by
  intro E
  obtain ⟨lo, hlo, e⟩ := bnd e
  obtain ⟨hi, hhi, e⟩ := bnd e
  obtain ⟨st, hst, e⟩ := bnd e
  have pl := part_ok rl hlo
  have ph := part_ok rh hhi
  have ps := part_ok rs hst
  cases rv with
  | str x t =>
    cases st with
    | some k => exact no e
    | none =>
      obtain ⟨hc, rfl⟩ := ifs e
      cases ps
      exact gv_slice_str pl ph hs hc E
  | bytes b t =>
    cases st with
    | some k => exact no e
    | none =>
      obtain ⟨hc, rfl⟩ := ifs e
      cases ps
      exact gv_slice_bytes pl ph hs hc E
  | list hz hl ra =>
    rename_i a vs xs
    obtain ⟨hc, rfl⟩ := ifs e
    obtain ⟨hc, hc2⟩ := dec_and hc
    refine wpAny_getItem_list_slice hl hs pl ph ps hc2 ⟨.mk (Ext.push _ _), ?_⟩ (by rw [List.size_toArray, ra.length, ← capL]; exact hc)
    rw [slicePick_pick]
    refine rep_newList zi ?_
    unfold pickL
    rw [ra.length]
    exact ra.pick _
  | _ => exact no e

theorem idx_cases {n : Nat} {i : Int} {k : Nat} (e : idx? n i = some k) : (0 ≤ i ∧ i < n ∧ k = i.toNat) ∨ (i < 0 ∧ 0 ≤ i + n ∧ k = (i + n).toNat) := by
  unfold idx? at e
  split at e
  · rename_i h; simp only [Option.some.injEq] at e; exact .inl ⟨h.1, h.2, e.symm⟩
  · split at e
    · rename_i h; simp only [Option.some.injEq] at e; exact .inr ⟨h.1, h.2, e.symm⟩
    · simp at e

theorem gv_index {v u : Value} {d k r : D} (rv : Rep Z s.heap v d) (rk : Rep Z s.heap u k) (e : index d k = some r) : Gv prog w A Z s (getItem v u) r := by
  intro E
  cases rv with
  | list hz hl ra =>
    rename_i a vs xs
    cases rk with
    | int i t =>
      obtain ⟨hc, e⟩ := ifx e
      have hc' : xs.length ≤ 16777216 := hc
      obtain ⟨j, hj, e⟩ := bnd e
      obtain ⟨x, hx, rx⟩ := ra.get e
      have hlt : j < xs.length := (List.getElem?_eq_some_iff.mp e).1
      rcases idx_cases hj with ⟨h1, h2, rfl⟩ | ⟨h1, h2, rfl⟩
      · exact wpAny_getItem_list hl h1 (by omega) (by simpa using hx) ⟨.refl _, rx⟩
      · have hs : vs.toArray.size = xs.length := by rw [List.size_toArray, ra.length]
        exact wpAny_getItem_list_neg hl h1 (by rw [hs]; omega) (by omega) (by rw [hs]; simpa using hx) ⟨.refl _, rx⟩
    | _ => exact no e
  | str x t =>
    cases rk with
    | int i t' =>
      obtain ⟨hc, e⟩ := ifx e
      have hc' : x.length ≤ 16777216 := hc
      obtain ⟨j, hj, e⟩ := bnd e
      obtain ⟨c, hx, rfl⟩ := mpd e
      have hlt : j < x.cps.toList.length := (List.getElem?_eq_some_iff.mp hx).1
      have hsi : seqIndex? i x.length = some j := by
        unfold seqIndex?
        rcases idx_cases hj with ⟨h1, h2, rfl⟩ | ⟨h1, h2, rfl⟩
        · have h3 : ¬ i < 0 := by omega
          simp only [h3, h1, h2, if_false, decide_true, Bool.and_true, if_true]
        · have h3 : i + (x.length : Int) < x.length := by omega
          simp only [h1, h2, h3, if_true, decide_true, Bool.and_true]
      have hi : (decide (i < -(2 ^ 63 : Int)) || decide (i ≥ 2 ^ 63)) = false := by
        rw [Bool.or_eq_false_iff, decide_eq_false_iff_not, decide_eq_false_iff_not]
        rcases idx_cases hj with ⟨h1, h2, _⟩ | ⟨h1, h2, _⟩ <;> constructor <;> omega
      exact getItem_str hi (c := c) (by rw [hsi]; simpa using hx) ⟨.tok, .str _ _⟩
    | _ => exact no e
  | _ => exact no e

/-- the value that a built-in's name holds -/
noncomputable def bval (f : Str) : Value :=
  if f = "len" then .builtin "len" else if f = "sum" then .builtin "sum" else if f = "divmod" then .builtin "divmod" else if f = "abs" then .builtin "abs"
  else if f = "int" then .type "int" else if f = "str" then .type "str" else if f = "bytes" then .type "bytes" else .type "range"

theorem preSum_ints (is : List Int) : ∀ n, n ≤ is.length → preSum (fun j => is.getD j 0) n = (is.take n).sum := W.KBmo.pre_take is

theorem sum_bounds : ∀ {is : List Int}, is.all (fun i => decide (-1000000000000 ≤ i) && decide (i ≤ 1000000000000)) = true → -1000000000000 * (is.length : Int) ≤ is.sum ∧ is.sum ≤ 1000000000000 * (is.length : Int)
  | [], _ => by simp
  | i :: r, h => by
    rw [List.all_cons, Bool.and_eq_true] at h
    have h2 := sum_bounds (is := r) h.2
    have h1 := h.1
    simp only [Bool.and_eq_true, decide_eq_true_eq] at h1
    rw [List.sum_cons, List.length_cons]
    omega

theorem ints_at {vs : List Value} {is : List Int} (hi : IntsAre vs is) {i : Nat} {v : Value} (h : vs[i]? = some v) : ∃ t, v = .int (is.getD i 0) t := by
  induction hi generalizing i with
  | nil => simp at h
  | cons n t r ih =>
    cases i with
    | zero => simp at h; subst h; exact ⟨t, rfl⟩
    | succ i => simp at h; simpa using ih h

theorem gv_sum {l : Addr} {vs : List Value} {is : List Int} (rm : Room A 0) (hl : s.heap.IsList l vs.toArray) (hi : IntsAre vs is)
    (hb : is.all (fun i => decide (-1000000000000 ≤ i) && decide (i ≤ 1000000000000)) = true) (hn : is.length ≤ 1000000) : Gv prog w A Z s (call (.builtin "sum") [.ref l]) (.int is.sum) := by
  intro E
  have hlen : vs.length = is.length := hi.length
  obtain ⟨o, ho, _⟩ := id hl
  have hlt : l < s.heap.objs.size := Heap.lt_size ho
  refine call_sum_walk (wpAny_pyIter_list hl ?_)
  refine ⟨s.heap.objs.size, [s.heap.objs.size, l], [s.heap.objs.size], vs.toArray.size, _, _, fun j => is.getD j 0, rfl, Walks.list (A := A.in1) rm.1 s.heap.objs.size l (Nat.ne_of_lt hlt) vs.toArray,
    ⟨⟨_, Heap.get?_push_size _ rfl, rfl, rfl⟩, hl.push _⟩, ?_, ?_, ?_, ?_⟩
  · intro b hb
    rw [Heap.size_push]
    simp only [List.mem_cons, List.not_mem_nil, or_false] at hb
    rcases hb with rfl | rfl
    · exact Nat.lt_succ_self _
    · exact Nat.lt_succ_of_lt hlt
  · intro i v hv
    exact ints_at hi (by simpa using hv)
  · intro j hj
    have hj' : j < is.length := by rw [List.size_toArray, hlen] at hj; exact hj
    have h1 : is.getD j 0 ∈ is := by
      rw [List.getD_eq_getElem?_getD, List.getElem?_eq_getElem hj']
      exact List.getElem_mem hj'
    have h2 := List.all_eq_true.mp hb _ h1
    simp only [Bool.and_eq_true, decide_eq_true_eq] at h2
    rw [preSum_ints is (j + 1) hj']
    have h3 := sum_bounds (is := is.take (j + 1)) (List.all_eq_true.mpr fun x hx => List.all_eq_true.mp hb x (List.mem_of_mem_take hx))
    have h4 : (is.take (j + 1)).length ≤ 1000000 := Nat.le_trans (by rw [List.length_take]; exact Nat.min_le_right _ _) hn
    unfold InLong
    refine ⟨⟨?_, ?_⟩, ?_, ?_⟩ <;> (try dsimp only) <;> omega
  · intro h' tk t' hk
    have e : preSum (fun j => is.getD j 0) vs.toArray.size = is.sum := by
      rw [List.size_toArray, hlen, preSum_ints is _ (Nat.le_refl _), List.take_length]
    rw [e]
    refine ⟨.mk fun b o hb => hk b o ?_ (Heap.get?_push_of_some _ hb), .int _ _⟩
    intro hm
    rw [List.mem_singleton] at hm
    subst hm
    exact absurd (Heap.lt_size hb) (Nat.lt_irrefl _)

theorem one_r {Z : List Addr} {h : Heap} {f : D → Option D} {vs : List Value} {ds : List D} {d : D} (r : RepAll Z h vs ds) (e : one f ds = some d) : ∃ v x, vs = [v] ∧ f x = some d ∧ Rep Z h v x := by
  obtain ⟨x, rfl, e⟩ := one_i e
  cases r with | cons a r => cases r; exact ⟨_, x, rfl, e, a⟩
theorem two_r {Z : List Addr} {h : Heap} {f : D → D → Option D} {vs : List Value} {ds : List D} {d : D} (r : RepAll Z h vs ds) (e : two f ds = some d) : ∃ v u x y, vs = [v, u] ∧ f x y = some d ∧ Rep Z h v x ∧ Rep Z h u y := by
  obtain ⟨x, y, rfl, e⟩ := two_i e
  cases r with | cons a r => cases r with | cons b r => cases r; exact ⟨_, _, x, y, rfl, e, a, b⟩
theorem rep_int {Z : List Addr} {h : Heap} {v : Value} {i : Int} (r : Rep Z h v (.int i)) : ∃ t, v = .int i t := by cases r; exact ⟨_, rfl⟩
theorem rep_str {Z : List Addr} {h : Heap} {v : Value} {i : Str} (r : Rep Z h v (.str i)) : ∃ t, v = .str i t := by cases r; exact ⟨_, rfl⟩
theorem rep_list {Z : List Addr} {h : Heap} {v : Value} {xs : List D} (r : Rep Z h v (.list xs)) : ∃ a vs, v = .ref a ∧ h.IsList a vs.toArray ∧ RepAll Z h vs xs := by cases r with | list hz hl ra => exact ⟨_, _, rfl, hl, ra⟩
theorem onI_r {Z : List Addr} {h : Heap} {f : Int → Option D} {vs : List Value} {ds : List D} {d : D} (r : RepAll Z h vs ds) (e : one (onI f) ds = some d) : ∃ i t, vs = [.int i t] ∧ f i = some d := by
  obtain ⟨v, x, rfl, e, ra⟩ := one_r r e
  obtain ⟨i, rfl, e⟩ := onI_i e
  obtain ⟨t, rfl⟩ := rep_int ra
  exact ⟨i, t, rfl, e⟩
theorem onS_r {Z : List Addr} {h : Heap} {f : Str → Option D} {vs : List Value} {ds : List D} {d : D} (r : RepAll Z h vs ds) (e : one (onS f) ds = some d) : ∃ i t, vs = [.str i t] ∧ f i = some d := by
  obtain ⟨v, x, rfl, e, ra⟩ := one_r r e
  obtain ⟨i, rfl, e⟩ := onS_i e
  obtain ⟨t, rfl⟩ := rep_str ra
  exact ⟨i, t, rfl, e⟩
theorem onL_r {Z : List Addr} {h : Heap} {f : List D → Option D} {vs : List Value} {ds : List D} {d : D} (r : RepAll Z h vs ds) (e : one (onL f) ds = some d) : ∃ a us xs, vs = [.ref a] ∧ h.IsList a us.toArray ∧ RepAll Z h us xs ∧ f xs = some d := by
  obtain ⟨v, x, rfl, e, ra⟩ := one_r r e
  obtain ⟨i, rfl, e⟩ := onL_i e
  obtain ⟨a, us, rfl, hl, ra⟩ := rep_list ra
  exact ⟨a, us, i, rfl, hl, ra, e⟩
theorem len_ok {v : Value} {x d : D} (r : Rep Z s.heap v x) (e : lenD x = some d) : Gv prog w A Z s (call (.builtin "len") [v]) d := by
  intro E
  cases r with
  | str x t =>
    obtain ⟨hc, rfl⟩ := ifs e
    have hc' : x.length ≤ 16777216 := hc
    exact len_str (by omega) ⟨.tok, .int _ _⟩
  | bytes b t =>
    obtain ⟨hc, rfl⟩ := ifs e
    have hc' : b.length ≤ 16777216 := hc
    exact W.KBw.len_K (ks := b.map fun c => (c.toNat : Int)) (W.KBw.ints_list b) (by rw [List.length_map]; omega) ⟨.tok, by rw [List.length_map]; exact .int _ _⟩
  | list hz hl ra =>
    rename_i a vs xs
    obtain ⟨hc, rfl⟩ := ifs e
    have hc' : xs.length ≤ 16777216 := hc
    refine len_list hl (by rw [List.size_toArray, ra.length]; omega) ⟨.tok, ?_⟩
    rw [List.size_toArray, ra.length]
    exact .int _ _
  | _ => exact no e
theorem sum_okL {a : Addr} {vs : List Value} {xs : List D} {d : D} (rm : Room A 0) (hl : s.heap.IsList a vs.toArray) (ra : RepAll Z s.heap vs xs) (e : sumL xs = some d) : Gv prog w A Z s (call (.builtin "sum") [.ref a]) d := by
  obtain ⟨is, his, e⟩ := bnd e
  obtain ⟨hc, rfl⟩ := ifs e
  exact gv_sum rm hl (ra.ints his) (dec_and' hc).1 (dec_and' hc).2
theorem dm_ok {v u : Value} {x y d : D} (zi : Zin Z s.heap) (ra : Rep Z s.heap v x) (rb : Rep Z s.heap u y) (e : ii dmD x y = some d) : Gv prog w A Z s (call (.builtin "divmod") [v, u]) d := by
  intro E
  obtain ⟨i, j, rfl, rfl, e⟩ := ii_i e
  obtain ⟨t, rfl⟩ := rep_int ra
  obtain ⟨t', rfl⟩ := rep_int rb
  obtain ⟨hc, rfl⟩ := ifs e
  refine divmod_int (dec_and hc).1 ⟨?_, ?_⟩ (.inl (PyProof.noPylong_small (dec_and hc).2))
  · exact ⟨_, _, rfl, Ext.push _ _⟩
  · exact .tuple zi.new ⟨_, Heap.get?_push_size _ rfl, rfl, _, rfl⟩ (.cons (.int _ _) (.cons (.int _ _) .nil))
theorem abs_ok {i : Int} {t : Tok} {d : D} (e : some (.int (i.natAbs : Int)) = some d) : Gv prog w A Z s (call (.builtin "abs") [.int i t]) d := by
  intro E
  cases some_i e
  refine call_abs_int fun u tk => ⟨.tok, ?_⟩
  have e : (if i < 0 then -i else i) = (i.natAbs : Int) := by split <;> omega
  rw [e]
  exact .int _ _
theorem stri_ok {i : Int} {t : Tok} {d : D} (e : strI i = some d) : Gv prog w A Z s (call (.type "str") [.int i t]) d := by
  intro E
  obtain ⟨hc, rfl⟩ := ifs e
  obtain ⟨h1, h2⟩ := dec_and hc
  refine P.str_of_int ?_ ⟨.tok, .str _ _⟩
  by_cases h0 : i.natAbs = 0
  · rw [h0]; decide
  · exact Nat.lt_of_lt_of_le ((Nat.log2_lt (k := 30) h0).mpr (by omega)) (by decide)
theorem byt_ok {a : Addr} {vs : List Value} {xs : List D} {d : D} (rm : Room A 0) (hl : s.heap.IsList a vs.toArray) (ra : RepAll Z s.heap vs xs) (e : bytL xs = some d) : Gv prog w A Z s (call (.type "bytes") [.ref a]) d := by
  intro E
  obtain ⟨is, his, e⟩ := bnd e
  obtain ⟨hc, rfl⟩ := ifs e
  obtain ⟨hc, h2⟩ := dec_and' hc
  have hi := ra.ints his
  refine call_bytes_ints hl hi ?_ ?_ rm.1 fun h' t k hk => ⟨.mk hk, .bytes _ _⟩
  · intro n hn
    have := dec_and (List.all_eq_true.mp hc n hn)
    omega
  · rw [hi.length, ← capL]
    show _ ≤ 16777216
    omega
theorem ite_i {α : Type} {c : Prop} [Decidable c] {a b : Option α} {d : α} (e : (if c then a else b) = some d) : (c ∧ a = some d) ∨ (¬ c ∧ b = some d) := by
  by_cases h : c
  · rw [if_pos h] at e; exact .inl ⟨h, e⟩
  · rw [if_neg h] at e; exact .inr ⟨h, e⟩
theorem bv1 : bval "len" = .builtin "len" := by decide +kernel
theorem builtin_ok {f : Str} {vs : List Value} {ds : List D} {d : D} (zi : Zin Z s.heap) (rm : Room A 0) (r : RepAll Z s.heap vs ds) (e : builtin? f ds = some d) : Gv prog w A Z s (call (bval f) vs) d := by
  rcases ite_i e with ⟨rfl, e⟩ | ⟨_, e⟩
  · obtain ⟨v, x, rfl, e, ra⟩ := one_r r e
    exact len_ok ra e
  rcases ite_i e with ⟨rfl, e⟩ | ⟨_, e⟩
  · obtain ⟨a, us, xs, rfl, hl, ra, e⟩ := onL_r r e
    exact sum_okL rm hl ra e
  rcases ite_i e with ⟨rfl, e⟩ | ⟨_, e⟩
  · obtain ⟨v, u, x, y, rfl, e, ra, rb⟩ := two_r r e
    exact dm_ok zi ra rb e
  rcases ite_i e with ⟨rfl, e⟩ | ⟨_, e⟩
  · obtain ⟨i, t, rfl, e⟩ := onI_r r e
    cases some_i e
    exact fun E => call_int_int ⟨.refl _, .int _ _⟩
  rcases ite_i e with ⟨rfl, e⟩ | ⟨_, e⟩
  · obtain ⟨i, t, rfl, e⟩ := onI_r r e
    exact abs_ok e
  rcases ite_i e with ⟨rfl, e⟩ | ⟨_, e⟩
  · obtain ⟨i, t, rfl, e⟩ := onI_r r e
    exact stri_ok e
  · obtain ⟨rfl, e⟩ := ifx e
    obtain ⟨a, us, xs, rfl, hl, ra, e⟩ := onL_r r e
    exact byt_ok rm hl ra e

noncomputable def mid (m : Str) : String := if m = "join" then "str.join" else "str.split"

theorem values_rep {Z : List Addr} {h : Heap} : ∀ l : List (Str × Tok), RepAll Z h (strValues l) ((l.map (·.1)).map .str)
  | [] => .nil
  | (x, t) :: r => .cons (.str x t) (values_rep r)

theorem newStrs {l : List (Str × Tok)} (zi : Zin Z s.heap) {k : Nat} : Kp s { s with heap := s.heap.push { cls := .type "list", data := .seq (strValues l).toArray }, toks := k } ∧
    Rep Z (s.heap.push { cls := .type "list", data := .seq (strValues l).toArray }) (.ref s.heap.objs.size) (.list ((l.map (·.1)).map .str)) :=
  ⟨⟨_, _, rfl, Ext.push _ _⟩, rep_newList zi (values_rep l)⟩

theorem gv_split {x y : Str} {t u : Tok} (zi : Zin Z s.heap) (h1 : y.length ≠ 0) (h2 : x.length ≤ 1000000)
    (h3 : (Builtin.Str.partsBetween x (Builtin.Str.occurrences x y 0 x.length (x.length + 1)) y.length).length ≤ cap) :
    Gv prog w A Z s (call (.builtin "str.split") [.str x t, .str y u]) (.list ((Txt.split x y).map .str)) := by
  intro E
  have hy : (y.length == 0) = false := by simpa using h1
  cases hc : (decide (x.length < y.length) || decide (Builtin.Str.strKind x < Builtin.Str.strKind y))
  · cases hf : (Builtin.Str.occurrences x y 0 x.length (x.length + 1)).isEmpty
    · have e : Txt.split x y = Builtin.Str.partsBetween x (Builtin.Str.occurrences x y 0 x.length (x.length + 1)) y.length := by
        unfold Txt.split
        rw [if_neg (by rw [hc]; exact Bool.false_ne_true), if_neg (by rw [hf]; exact Bool.false_ne_true)]
      refine call_meets F.slot_str_split (typeIs_str _ _ _) F.entry_str_split (F.args_str_split_2 _ _)
        (meets_str_split_sep x y t u hc hy hf (by rw [sizeLine_eq]; omega) (by rw [← capL]; exact h3)) ?_
      show (fun v s' => Kp s s' ∧ Rep Z s'.heap v _) _ { s with toks := _, heap := s.heap.push { cls := .type "list", data := .seq (strsFrom s.toks (Builtin.Str.partsBetween x (Builtin.Str.occurrences x y 0 x.length (x.length + 1)) y.length)).toArray } }
      rw [strsFrom_eq, e]
      have h4 := rep_newList zi (values_rep (Z := Z) (h := s.heap) (numbered s.toks (Builtin.Str.partsBetween x (Builtin.Str.occurrences x y 0 x.length (x.length + 1)) y.length)))
      rw [numbered_texts] at h4
      exact ⟨⟨_, _, rfl, Ext.push _ _⟩, h4⟩
    · have e : Txt.split x y = [x] := by
        unfold Txt.split
        rw [if_neg (by rw [hc]; exact Bool.false_ne_true), if_pos hf]
      rw [e]
      exact call_meets F.slot_str_split (typeIs_str _ _ _) F.entry_str_split (F.args_str_split_2 _ _) (meets_str_split_not_found x y t u hc hy hf) (newStrs (l := [(x, t)]) zi)
  · have e : Txt.split x y = [x] := by
      unfold Txt.split
      rw [if_pos hc]
    rw [e]
    exact call_meets F.slot_str_split (typeIs_str _ _ _) F.entry_str_split (F.args_str_split_2 _ _) (meets_str_split_cannot_occur x y t u hc) (newStrs (l := [(x, t)]) zi)

/-- the method is found on the text, whatever the state -/
noncomputable def GetsM (prog : Program) (w : World) (A : Around) (v : Value) (m : Str) (id : String) : Prop :=
  ∀ (s : Shared) (pl : Sem Bool) (Q : Value × List Value → Shared → Prop) (E : Value → Shared → Prop), Q (.builtin id, [v]) s → wpAny (model prog w) A (getMethod v m pl) Q E s

theorem method_base {m : Str} {v : Value} {o : D} {ds : List D} {d : D} (r0 : Rep Z s.heap v o) (e : method? m o ds = some d) : GetsM prog w A v m (mid m) := by
  rcases ite_i e with ⟨rfl, e⟩ | ⟨_, e⟩
  · obtain ⟨x, rfl, e⟩ := onS_i e
    obtain ⟨t, rfl⟩ := rep_str r0
    exact fun s pl Q E h => GM.join h
  · obtain ⟨rfl, e⟩ := ifx e
    obtain ⟨x, rfl, e⟩ := onS_i e
    obtain ⟨t, rfl⟩ := rep_str r0
    exact fun s pl Q E h => GM.split h

theorem method_ok {m : Str} {v : Value} {o : D} {vs : List Value} {ds : List D} {d : D} (zi : Zin Z s.heap) (r0 : Rep Z s.heap v o) (r : RepAll Z s.heap vs ds) (e : method? m o ds = some d) :
    Gv prog w A Z s (call (.builtin (mid m)) (v :: vs)) d := by
  rcases ite_i e with ⟨rfl, e⟩ | ⟨_, e⟩
  · obtain ⟨x, rfl, e⟩ := onS_i e
    obtain ⟨t, rfl⟩ := rep_str r0
    obtain ⟨a, us, xs, rfl, hl, ra, e⟩ := onL_r r e
    obtain ⟨ss, hss, e⟩ := bnd e
    obtain ⟨hc, rfl⟩ := ifs e
    exact fun E => join_list hl (ra.strs hss) hc fun t' k => ⟨.tok, .str _ _⟩
  · obtain ⟨rfl, e⟩ := ifx e
    obtain ⟨x, rfl, e⟩ := onS_i e
    obtain ⟨t, rfl⟩ := rep_str r0
    obtain ⟨y, u, rfl, e⟩ := onS_r r e
    obtain ⟨hc, rfl⟩ := ifs e
    exact gv_split zi (dec_and (dec_and' hc).1).1 (dec_and (dec_and' hc).1).2 (dec_and' hc).2
end
end Mine
end
section
open PySem PyProof.Rows
set_option maxRecDepth 100000
set_option Elab.async false
namespace Mine

noncomputable def VarAt (h : Heap) (env : Env) (x : Str) (v : Value) : Prop :=
  (env.kindOf x = some .local ∧ ∃ m, h.Ns env.locals m ∧ m x = some v) ∨ (env.kindOf x = some .cell ∧ ∃ c, env.cells.lookup x = some c ∧ h.IsCell c (some v))
theorem VarAt.ext {h h' : Heap} {env : Env} {x : Str} {v : Value} (k : VarAt h env x v) (e : Ext h h') : VarAt h' env x v := by
  rcases k with ⟨k, m, hn, hv⟩ | ⟨k, c, hc, hv⟩
  · exact .inl ⟨k, m, hn.keeps e, hv⟩
  · exact .inr ⟨k, c, hc, hv.keeps e⟩

noncomputable def VarC (Z : List Addr) (h : Heap) (env : Env) (x : Str) : Cell → Prop
  | .val d => ∃ v, VarAt h env x v ∧ Rep Z h v d
  | .own ds => ∃ a vs, VarAt h env x (.ref a) ∧ h.PlainList a vs.toArray ∧ RepAll Z h vs ds
theorem VarC.ext {Z : List Addr} {h h' : Heap} {env : Env} {x : Str} {c : Cell} (k : VarC Z h env x c) (e : Ext h h') : VarC Z h' env x c := by
  cases c with
  | val d => obtain ⟨v, a, r⟩ := k; exact ⟨v, a.ext e, r.ext e⟩
  | own ds => obtain ⟨a, vs, k, l, r⟩ := k; exact ⟨a, vs, k.ext e, l.at fun o ho => e _ o ho, r.ext e⟩

structure EnvOk (h₀ : Heap) (Z : List Addr) (h : Heap) (env : Env) (nm : Names) (ρ : Rho) : Prop where
  kind : env.scope.kind = .function
  glob : env.globals = mainGlobals
  bi : env.builtins = builtinsNs
  zin : Zin Z h
  old : Ext h₀ h
  gl : ∀ f, nm.lookup f = some .globalImplicit → env.kindOf f = some .globalImplicit
  ce : ∀ y, nm.lookup y = some .cell → env.kindOf y = some .cell ∧ ∃ c, env.cells.lookup y = some c
  var : ∀ x c, ρ.lookup x = some c → (x == ("__debug__" : Str)) = false ∧ VarC Z h env x c
theorem EnvOk.ext {h₀ : Heap} {Z : List Addr} {h h' : Heap} {env : Env} {nm : Names} {ρ : Rho} (k : EnvOk h₀ Z h env nm ρ) (e : Ext h h') : EnvOk h₀ Z h' env nm ρ :=
  ⟨k.kind, k.glob, k.bi, k.zin.ext e, k.old.trans e, k.gl, k.ce, fun x c hx => ⟨(k.var x c hx).1, (k.var x c hx).2.ext e⟩⟩

structure Glo (h₀ : Heap) (mg mb : Str → Option Value) : Prop where
  g : h₀.Ns mainGlobals mg
  b : h₀.Ns builtinsNs mb
  bt : ∀ f, builtinNames.contains f = true ∨ f = "range" → mg f = none ∧ mb f = some (bval f)

/-- the program's own functions, as far as F tells them -/
noncomputable def FnsOk (prog : Program) (w : World) (h₀ : Heap) (mg : Str → Option Value) (lvl : Nat) (Φ : Fns) : Prop :=
  ∀ f ds d, Φ f ds = some d → (f == ("__debug__" : Str)) = false ∧ ∃ a, mg f = some (.ref a) ∧ (∃ o fd, h₀.get? a = some o ∧ o.data = .func fd) ∧
    ∀ (A : Around) (s : Shared) (Z : List Addr) (vs : List Value), Room A lvl → Ext h₀ s.heap → 0 ≤ s.toks → Zin Z s.heap → RepAll Z s.heap vs ds → Gv prog w A Z s (call (.ref a) vs) d

section
variable {prog : Program} {w : World} {A : Around} {E : Value → Shared → Prop} {s : Shared} {Z : List Addr} {h₀ : Heap} {env : Env} {nm : Names} {ρ : Rho} {mg mb : Str → Option Value} {lvl : Nat} {Φ : Fns}

theorem eval_name {x : Str} {pos : Pos} {v : Value} {Q : Value → Shared → Prop} (hk : env.scope.kind = .function) (hd : (x == ("__debug__" : Str)) = false) (k : VarAt s.heap env x v) (h : Q v s) :
    wpAny (model prog w) A (eval (.Name x pos) env) Q E s := by
  rcases k with ⟨k, m, hn, hv⟩ | ⟨k, c, hc, hv⟩
  · exact wpAny_Name (wpAny_loadName_local hk k hn hv h) hd
  · exact wpAny_Name (wpAny_loadName_cell hk k hc hv h) hd

theorem gv_name {x : Str} {pos : Pos} {d : D} (k : EnvOk h₀ Z s.heap env nm ρ) (e : getV ρ x = some d) : Gv prog w A Z s (eval (.Name x pos) env) d := by
  intro E
  obtain ⟨hd, v, hv, r⟩ := k.var x _ (valO_i e)
  exact eval_name k.kind hd hv ⟨.refl _, r⟩

theorem builtin_ne_debug {f : Str} (h : builtinNames.contains f = true ∨ f = "range") : (f == ("__debug__" : Str)) = false := by
  rcases h with h | h
  · simp only [builtinNames, List.contains_eq_mem, List.mem_cons, List.not_mem_nil, or_false, decide_eq_true_eq] at h
    rcases h with h | h | h | h | h | h | h <;> subst h <;> decide
  · subst h; decide

theorem eval_builtin {f : Str} {pos : Pos} {Q : Value → Shared → Prop} (G : Glo h₀ mg mb) (k : EnvOk h₀ Z s.heap env nm ρ) (hf : nm.lookup f = some .globalImplicit) (hb : builtinNames.contains f = true ∨ f = "range") (h : Q (bval f) s) :
    wpAny (model prog w) A (eval (.Name f pos) env) Q E s :=
  Calls.Name_function_global k.kind (k.gl f hf) (Calls.loadGlobal_builtin (by rw [k.glob]; exact G.g.keeps k.old) (G.bt f hb).1 (by rw [k.bi]; exact G.b.keeps k.old) (G.bt f hb).2 h) (builtin_ne_debug hb)

theorem eval_fn {f : Str} {pos : Pos} {v : Value} {Q : Value → Shared → Prop} (G : Glo h₀ mg mb) (k : EnvOk h₀ Z s.heap env nm ρ) (hf : nm.lookup f = some .globalImplicit) (hd : (f == ("__debug__" : Str)) = false) (hv : mg f = some v) (h : Q v s) :
    wpAny (model prog w) A (eval (.Name f pos) env) Q E s :=
  Calls.Name_function_global k.kind (k.gl f hf) (Calls.loadGlobal_global (by rw [k.glob]; exact G.g.keeps k.old) hv h) hd

/-- what a list of arguments gives -/
noncomputable abbrev Ga (prog : Program) (w : World) (A : Around) (Z : List Addr) (s : Shared) (t : Sem (List Value)) (ds : List D) : Prop :=
  ∀ E, wpAny (model prog w) A t (fun vs s' => Kp s s' ∧ RepAll Z s'.heap vs ds) E s

theorem evalArgs_of {f : Value} {args : List (Bool × Sem Value)} {Q : Args → Shared → Prop} (hplain : args.any (·.1) = false)
    (h : wpAny (model prog w) A (spliced args) (fun vs s' => Q ⟨vs, []⟩ s') E s) : wpAny (model prog w) A (evalArgs f true args []) Q E s := by
  cases args with
  | nil =>
    unfold evalArgs
    show wpAny _ A (spliced [] >>= _) Q E s
    refine wpAny_bind (wpAny_mono h (fun vs s' h' => ?_) fun _ _ x => x)
    refine wpAny_holding ?_
    exact wpAny_bind (wpAny_pure (wpAny_bind (wpAny_pure (wpAny_pure h'))))
  | cons a r =>
    obtain ⟨b, t⟩ := a
    rw [List.any_cons, Bool.or_eq_false_iff] at hplain
    have hb : b = false := hplain.1
    subst hb
    exact Calls.evalArgs_plain h

theorem callWith_b {pos : Pos} {first : List Value} {args : List (Bool × Sem Value)} {id : Value} {Q : Value → Shared → Prop} (hid : (∃ n, id = .builtin n) ∨ (∃ n, id = .type n)) (hplain : args.any (·.1) = false)
    (h : wpAny (model prog w) A (spliced args) (fun vs s₁ => wpAny (model prog w) A (call id (first ++ vs)) Q E s₁) E s) :
    wpAny (model prog w) A (callWith pos id first args []) Q E s := by
  have ha : wpAny (model prog w) A (evalArgs id true args []) (fun a s₁ => wpAny (model prog w) A (call id (first ++ a.pos) a.kw) Q E s₁) E s := evalArgs_of hplain h
  unfold callWith
  refine wpAny_bind (wpAny_holding (wpAny_mono ha (fun a s₁ h₁ => wpAny_bind (wpAny_standAt ?_)) fun _ _ x => x))
  simp only [hplain, List.any_nil, Bool.or_false]
  rcases hid with ⟨n, rfl⟩ | ⟨n, rfl⟩
  · refine wpAny_bind (wpAny_pure ?_)
    exact wpAny_bind (wpAny_mono h₁ (fun r s₂ hr => wpAny_bind (wpAny_holding (wpAny_point (wpAny_pure hr)))) fun _ _ x => x)
  · refine wpAny_bind (wpAny_pure ?_)
    exact wpAny_bind (wpAny_mono h₁ (fun r s₂ hr => wpAny_bind (wpAny_holding (wpAny_point (wpAny_pure hr)))) fun _ _ x => x)

theorem callWith_f {pos : Pos} {a : Addr} {args : List (Bool × Sem Value)} {Q : Value → Shared → Prop} (hplain : args.any (·.1) = false)
    (h : wpAny (model prog w) A (spliced args) (fun vs s₁ => (∃ o fd, s₁.heap.get? a = some o ∧ o.data = .func fd) ∧ wpAny (model prog w) A (call (.ref a) vs) Q E s₁) E s) :
    wpAny (model prog w) A (callWith pos (.ref a) [] args []) Q E s := by
  have ha : wpAny (model prog w) A (evalArgs (.ref a) true args []) (fun x s₁ => (∃ o fd, s₁.heap.get? a = some o ∧ o.data = .func fd) ∧ wpAny (model prog w) A (call (.ref a) ([] ++ x.pos) x.kw) Q E s₁) E s := evalArgs_of hplain h
  unfold callWith
  refine wpAny_bind (wpAny_holding (wpAny_mono ha (fun x s₁ h₁ => wpAny_bind (wpAny_standAt ?_)) fun _ _ x => x))
  have tail : ∀ {t : Sem Value}, wpAny (model prog w) A t Q E s₁ → wpAny (model prog w) A (t >>= fun r => holding [r] point >>= fun _ => pure r) Q E s₁ :=
    fun ht => wpAny_bind (wpAny_mono ht (fun r s₂ hr => wpAny_bind (wpAny_holding (wpAny_point (wpAny_pure hr)))) fun _ _ x => x)
  obtain ⟨⟨o, fd, ho, hd⟩, h₂⟩ := h₁
  simp only [hplain, List.any_nil, Bool.or_false]
  refine wpAny_bind (m := keeperOf (.ref a)) ?_
  unfold keeperOf
  refine wpAny_bind (wpAny_load ho ?_)
  rw [hd]
  refine wpAny_pure ?_
  dsimp only
  split
  · exact tail h₂
  · exact tail (by unfold callMarked; exact Calls.wpAny_keep h₂)

theorem subscript_rule {value slice : Expr} {pos : Pos} {Q : Value → Shared → Prop}
    (h : wpAny (model prog w) A (eval value env) (fun o s₁ => wpAny (model prog w) A (eval slice env) (fun i s₂ => (∃ T id, s₂.TypeIs o T ∧ typeLookup (.type T) "__getitem__" = pure (some (.builtin id))) ∧ wpAny (model prog w) A (getItem o i) Q E s₂) E s₁) E s) :
    wpAny (model prog w) A (eval (.Subscript value slice pos) env) Q E s := by
  rw [eval_Subscript]
  refine wpAny_bind (wpAny_mono h (fun o s₁ h₁ => wpAny_bind (wpAny_holding (wpAny_mono h₁ (fun i s₂ h₂ => wpAny_bind (wpAny_standAt ?_)) fun _ _ x => x))) fun _ _ x => x)
  obtain ⟨⟨T, id, hT, hl⟩, h₂⟩ := h₂
  refine wpAny_bind ?_
  rw [getitemInPython_of_ne hT.not_modules]
  refine wpAny_bind (wpAny_specialOf hT hl (wpAny_pure ?_))
  refine wpAny_bind ?_
  have fin : ∀ l, wpAny (model prog w) A (operate l (getItem o i)) (fun r s₃ => wpAny (model prog w) A (letTemporaryGo value o r >>= fun _ => pure r) Q E s₃) E s₂ := fun l =>
    wpAny_operating (wpAny_mono h₂ (fun r s₃ h₃ => wpAny_bind (wpAny_letTemporaryGo (wpAny_pure h₃))) fun _ _ x => x)
  unfold subscripted
  split
  · exact fin _
  · rename_i hx; simp at hx
  · exact fin _
end
end Mine
end
section
open PySem PyProof.Rows
set_option maxRecDepth 100000
set_option Elab.async false
namespace Mine
section
variable {prog : Program} {w : World} {A : Around} {E : Value → Shared → Prop} {s : Shared} {Z : List Addr} {h₀ : Heap} {env : Env} {nm : Names} {ρ : Rho} {mg mb : Str → Option Value} {lvl : Nat} {Φ : Fns}

theorem closure_go (env : Env) : ∀ (names : List (Str × NameKind)) (acc : List (Str × Addr)), (∀ y ∈ names, y.2 = .free → ∃ c, env.cells.lookup y.1 = some c) → (∀ n c, (n, c) ∈ acc → env.cells.lookup n = some c) →
    ∃ cl, (forIn names acc (fun (x : Str × NameKind) (cs : List (Str × Addr)) => (if x.2 == .free then (do let a ← cellOf env x.1; pure (ForInStep.yield ((x.1, a) :: cs))) else pure (ForInStep.yield cs) : Sem (ForInStep (List (Str × Addr)))))) = pure cl ∧
      (∀ n c, (n, c) ∈ cl → env.cells.lookup n = some c) ∧ (∀ n c, (n, c) ∈ acc → ∃ c', (n, c') ∈ cl) ∧ (∀ y ∈ names, y.2 = .free → ∃ c, (y.1, c) ∈ cl)
  | [], acc, _, ha => ⟨acc, rfl, ha, fun n c h => ⟨c, h⟩, fun _ h => nomatch h⟩
  | (n, k) :: r, acc, hn, ha => by
    by_cases hk : k = .free
    · subst hk
      obtain ⟨c, hc⟩ := hn (n, .free) (.head _) rfl
      obtain ⟨cl, h1, h2, h3, h4⟩ := closure_go env r ((n, c) :: acc) (fun y hy => hn y (.tail _ hy)) (fun n' c' h => by
        rcases List.mem_cons.mp h with h | h
        · cases h; exact hc
        · exact ha _ _ h)
      refine ⟨cl, ?_, h2, fun n' c' h => h3 n' c' (.tail _ h), fun y hy hf => ?_⟩
      · rw [List.forIn_cons]
        have e : cellOf env n = pure c := by unfold cellOf; simp only [] at hc; rw [hc]
        simp only [beq_self_eq_true, if_true, e, pure_bind]
        exact h1
      · rcases List.mem_cons.mp hy with h | h
        · subst h; exact h3 n c (.head _)
        · exact h4 y h hf
    · obtain ⟨cl, h1, h2, h3, h4⟩ := closure_go env r acc (fun y hy => hn y (.tail _ hy)) ha
      refine ⟨cl, ?_, h2, h3, fun y hy hf => ?_⟩
      · rw [List.forIn_cons]
        have hb : (k == NameKind.free) = false := by simpa using hk
        simp only [hb, Bool.false_eq_true, if_false, pure_bind]
        exact h1
      · rcases List.mem_cons.mp hy with h | h
        · subst h; exact absurd hf hk
        · exact h4 y h hf

theorem lookup_mem {α : Type} {l : List (Str × α)} {x : Str} {a : α} (h : l.lookup x = some a) : (x, a) ∈ l := by
  induction l with
  | nil => simp at h
  | cons y r ih =>
    obtain ⟨n, b⟩ := y
    rw [List.lookup_cons] at h
    cases hx : x == n with
    | true =>
      rw [hx] at h
      simp only [Option.some.injEq] at h
      subst h
      have : x = n := by simpa using hx
      subst this
      exact .head _
    | false => rw [hx] at h; exact .tail _ (ih h)
theorem mem_lookup {α : Type} {l : List (Str × α)} {x : Str} {a : α} (h : (x, a) ∈ l) : ∃ b, l.lookup x = some b := by
  induction l with
  | nil => cases h
  | cons y r ih =>
    obtain ⟨n, b⟩ := y
    rw [List.lookup_cons]
    cases hx : x == n with
    | true => exact ⟨b, rfl⟩
    | false =>
      rcases List.mem_cons.mp h with h | h
      · cases h; simp at hx
      · exact ih h

theorem closureFor_ok {scope : Scope} (env : Env) (h : ∀ y ∈ scope.names, y.2 = .free → ∃ c, env.cells.lookup y.1 = some c) :
    ∃ cl, closureFor scope env = pure cl ∧ ∀ n, scope.names.lookup n = some .free → ∃ c, cl.lookup n = some c ∧ env.cells.lookup n = some c := by
  obtain ⟨cl, h1, h2, _, h4⟩ := closure_go env scope.names [] h (fun _ _ h => nomatch h)
  refine ⟨cl, ?_, fun n hn => ?_⟩
  · simp only [closureFor]
    have e := h1
    refine Eq.trans ?_ (Eq.trans (congrArg (fun t => t >>= fun cs => pure cs) e) rfl)
    rfl
  · obtain ⟨c, hc⟩ := h4 _ (lookup_mem hn) rfl
    obtain ⟨b, hb⟩ := mem_lookup hc
    exact ⟨b, hb, h2 _ _ (lookup_mem hb)⟩

theorem walks_bounded {prog : Program} {w : World} {A : Around} {I : Addr} {fp wr : List Addr} {n : Nat} {P : Nat → Value → Prop} {St : Nat → Heap → Prop} (W : Walks prog w A I fp wr n P St) :
    Walks prog w A I fp wr n (fun i v => i < n ∧ P i v) St where
  sub := W.sub
  frame := W.frame
  item := fun i s Q E hi st hQ => W.item i s Q E hi st fun v h' tk hP => hQ v h' tk ⟨hi, hP⟩
  done := W.done
  self := W.self

/-- going over something -/
noncomputable def IterOk (prog : Program) (w : World) (A : Around) (Z : List Addr) (s : Shared) (t : Sem Value) (ds : List D) : Prop :=
  ∀ E, wpAny (model prog w) A t (fun xv s₁ => wpAny (model prog w) A (pyIter xv) (fun it s₂ =>
    ∃ I fp wr P St, it = .ref I ∧ Walks prog w A I fp wr ds.length P St ∧ St 0 s₂.heap ∧ ((∀ b ∈ fp, b ∉ Z) ∧ ∀ i h, St i h → ∀ b ∈ fp, ∃ o, h.get? b = some o) ∧ (∀ b ∈ wr, s.heap.get? b = none) ∧ Kp s s₂ ∧
      ∀ i v, P i v → ∃ d, ds[i]? = some d ∧ Rep Z s₂.heap v d) E s₁) E s

theorem get_none_of_ext {h h' : Heap} (e : Ext h h') : h.get? h'.objs.size = none := by
  cases hq : h.get? h'.objs.size with
  | none => rfl
  | some o => exact absurd (Heap.lt_size (e _ _ hq)) (Nat.lt_irrefl _)

theorem iter_list {t : Sem Value} {ds : List D} (hh : A.handled = none) (zi : Zin Z s.heap) (h : Gv prog w A Z s t (.list ds)) : IterOk prog w A Z s t ds := by
  intro E
  refine wpAny_mono (h E) (fun v s₁ h₁ => ?_) fun _ _ x => x
  obtain ⟨kp, r⟩ := h₁
  cases r with
  | list hz hl ra =>
    rename_i a vs
    obtain ⟨o, ho, _⟩ := id hl
    have hlt : a < s₁.heap.objs.size := Heap.lt_size ho
    refine wpAny_pyIter_list hl ?_
    refine ⟨s₁.heap.objs.size, [s₁.heap.objs.size, a], [s₁.heap.objs.size], (fun i v => vs.toArray[i]? = some v), (fun i h => h.IsListIter s₁.heap.objs.size a i ∧ h.IsList a vs.toArray), rfl, ?_, ⟨⟨_, Heap.get?_push_size _ rfl, rfl, rfl⟩, hl.push _⟩, ?_, ?_, kp.trans ⟨_, _, rfl, Ext.push _ _⟩, ?_⟩
    · have := Walks.list (prog := prog) (w := w) hh s₁.heap.objs.size a (Nat.ne_of_lt hlt) vs.toArray
      have e : vs.toArray.size = ds.length := by rw [List.size_toArray, ra.length]
      rw [e] at this
      exact this
    · refine ⟨fun b hb => ?_, fun i h hs b hb => ?_⟩
      · simp only [List.mem_cons, List.not_mem_nil, or_false] at hb
        rcases hb with rfl | rfl
        · exact (zi.ext kp.ext).new
        · exact hz
      · simp only [List.mem_cons, List.not_mem_nil, or_false] at hb
        rcases hb with rfl | rfl
        · obtain ⟨o, ho, _⟩ := hs.1; exact ⟨o, ho⟩
        · obtain ⟨o, ho, _⟩ := hs.2; exact ⟨o, ho⟩
    · intro b hb
      rw [List.mem_singleton] at hb
      subst hb
      exact get_none_of_ext kp.ext
    · intro i v hv
      have hv' : vs[i]? = some v := by simpa using hv
      obtain ⟨d, hd, r⟩ := ra.get' hv'
      exact ⟨d, hd, r.ext (Ext.push _ _)⟩

theorem iter_bytes {t : Sem Value} {b : List UInt8} (hh : A.handled = none) (zi : Zin Z s.heap) (h : Gv prog w A Z s t (.bytes b)) : IterOk prog w A Z s t (b.map fun c => .int c.toNat) := by
  intro E
  refine wpAny_mono (h E) (fun v s₁ h₁ => ?_) fun _ _ x => x
  obtain ⟨kp, r⟩ := h₁
  cases r with
  | bytes b tk =>
    refine W.KBw.pyIter_bytes ?_
    refine ⟨s₁.heap.objs.size, [s₁.heap.objs.size], [s₁.heap.objs.size], (fun i v => ∃ c u, b.toArray[i]? = some c ∧ v = .int (c.toNat : Int) u), (fun i h => W.KBw.IsBytesIter h s₁.heap.objs.size b.toArray tk i), rfl, ?_, ⟨_, Heap.get?_push_size _ rfl, rfl, rfl⟩, ?_, ?_, kp.trans ⟨_, _, rfl, Ext.push _ _⟩, ?_⟩
    · have := W.KBw.walks (prog := prog) (w := w) hh s₁.heap.objs.size b.toArray tk
      have e : b.toArray.size = (b.map fun c => D.int c.toNat).length := by rw [List.size_toArray, List.length_map]
      rw [e] at this
      exact this
    · refine ⟨fun x hb => ?_, fun i h hs x hb => ?_⟩
      · rw [List.mem_singleton] at hb
        subst hb
        exact (zi.ext kp.ext).new
      · rw [List.mem_singleton] at hb
        subst hb
        obtain ⟨o, ho, _⟩ := hs; exact ⟨o, ho⟩
    · intro x hb
      rw [List.mem_singleton] at hb
      subst hb
      exact get_none_of_ext kp.ext
    · rintro i v ⟨c, u, hc, rfl⟩
      have hc' : b[i]? = some c := by simpa using hc
      exact ⟨.int c.toNat, by rw [List.getElem?_map, hc']; rfl, .int _ _⟩

theorem iter_range {v : Sem Value} {a b c : Int} {n : Nat} (hh : A.handled = none) (zi : Zin Z s.heap) (hn : Builtin.Range.rangeSize a b c = n) (hsm : Builtin.Range.small a b c = true)
    (h : ∀ E, wpAny (model prog w) A v (fun r s' => Kp s s' ∧ ∃ x t u y, r = .ref x ∧ IsRange s'.heap x a b c t u y) E s) : IterOk prog w A Z s v (rangeL a c n) := by
  intro E
  refine wpAny_mono (h E) (fun v s₁ h₁ => ?_) fun _ _ x => x
  obtain ⟨kp, x, t, u, y, rfl, hr⟩ := h₁
  refine wpAny_pyIter_range hr hsm ?_
  refine ⟨s₁.heap.objs.size, [s₁.heap.objs.size], [s₁.heap.objs.size], (fun i v => i < (rangeL a c n).length ∧ ∃ t, v = .int (a + i * c) t), (fun i h => IsRangeIter h s₁.heap.objs.size (a + (i : Nat) * c) ((n : Int) - (i : Nat)) c), rfl, ?_, ?_, ?_, ?_, kp.trans ⟨_, _, rfl, Ext.push _ _⟩, ?_⟩
  · have := Walks.range (prog := prog) (w := w) hh s₁.heap.objs.size a c n
    have e : n = (rangeL a c n).length := by unfold rangeL; rw [List.length_map, List.length_range]
    have this := walks_bounded this
    rw [← e]
    exact this
  · have : IsRangeIter (s₁.heap.push { cls := .type "range_iterator", data := .fields #[rawInt a, rawInt (Builtin.Range.rangeSize a b c), rawInt c] }) s₁.heap.objs.size a (Builtin.Range.rangeSize a b c) c := Heap.get?_push_size _ rfl
    rw [hn] at this
    simpa [hn] using this
  · refine ⟨fun x hb => ?_, fun i h hs x hb => ?_⟩
    · rw [List.mem_singleton] at hb
      subst hb
      exact (zi.ext kp.ext).new
    · rw [List.mem_singleton] at hb
      subst hb
      exact ⟨_, hs⟩
  · intro x hb
    rw [List.mem_singleton] at hb
    subst hb
    exact get_none_of_ext kp.ext
  · rintro i v ⟨hi, t, rfl⟩
    have hi' : i < n := by unfold rangeL at hi; rw [List.length_map, List.length_range] at hi; exact hi
    exact ⟨.int (a + i * c), by unfold rangeL; rw [List.getElem?_map, List.getElem?_range hi']; rfl, .int _ _⟩
end
end Mine
end
section
open PySem PyProof.Rows
set_option maxRecDepth 100000
set_option Elab.async false
namespace Mine

noncomputable def immOf : Value → D
  | .int i _ => .int i
  | .str x _ => .str x
  | .bool b => .bool b
  | .bytes b _ => .bytes b.toList
  | _ => .none
theorem immOf_rep {Z : List Addr} {h : Heap} {v : Value} {d : D} (r : Rep Z h v d) (hi : d.imm = true) : immOf v = d := by
  cases r <;> first | rfl | simp [D.imm] at hi
theorem rep_imm {Z Z' : List Addr} {h h' : Heap} {v : Value} {d : D} (r : Rep Z h v d) (hi : d.imm = true) : Rep Z' h' v d := by
  cases r with
  | none => exact .none
  | bool b => exact .bool b
  | int i t => exact .int i t
  | str x t => exact .str x t
  | bytes b t => exact .bytes b t
  | _ => simp [D.imm] at hi

theorem consD_i {x : Option D} {xs : Option (List D)} {r : List D} (h : consD true x xs = some r) : ∃ y ys, x = some y ∧ xs = some ys ∧ y.imm = true ∧ y :: ys = r := by
  obtain ⟨y, hy, h⟩ := bnd h
  obtain ⟨ys, hys, h⟩ := bnd h
  obtain ⟨hi, h⟩ := ifs h
  exact ⟨y, ys, hy, hys, hi, h⟩
theorem compL_tests {test : D → Option Bool} {elt : D → Option D} {src : List D} : ∀ {out : List D}, compL test elt src = some out → ∀ d ∈ src, (∃ b, test d = some b) ∧ (test d = some true → ∃ x, elt d = some x ∧ x.imm = true) := by
  induction src with
  | nil => exact fun _ _ hd => nomatch hd
  | cons a r ih =>
    intro out h d hd
    obtain ⟨b, ht, h⟩ := bnd h
    cases b with
    | false =>
      rcases List.mem_cons.mp hd with rfl | hd
      · exact ⟨⟨_, ht⟩, fun e => absurd (some_i (ht.symm.trans e)) Bool.false_ne_true⟩
      · exact ih h d hd
    | true =>
      obtain ⟨x, xs, he, hr, hx, _⟩ := consD_i h
      rcases List.mem_cons.mp hd with rfl | hd
      · exact ⟨⟨_, ht⟩, fun _ => ⟨x, he, hx⟩⟩
      · exact ih hr d hd

theorem compL_out {Z : List Addr} {hp : Heap} {test : D → Option Bool} {elt : D → Option D} {F : Value → Value → Prop} (hF : ∀ v y, F v y → ∃ x, elt (immOf v) = some x ∧ x.imm = true ∧ Rep [] {} y x) {vs : List Value} :
    ∀ {ys : List Value} {out : List D}, compL test elt (vs.map immOf) = some out → Paired F (vs.filter fun v => test (immOf v) == some true) ys → RepAll Z hp ys out := by
  induction vs with
  | nil =>
    intro ys out h pr
    cases some_i h
    cases pr
    exact .nil
  | cons v vs ih =>
    intro ys out h pr
    obtain ⟨b, ht, h⟩ := bnd h
    rw [List.filter_cons, ht] at pr
    cases b with
    | false => exact ih h pr
    | true =>
      rw [if_pos (beq_self_eq_true _)] at pr
      obtain ⟨x, xs, he, hr, hx, rfl⟩ := consD_i h
      cases pr with
      | cons hv pr =>
        obtain ⟨x', hx', hi, rx⟩ := hF _ _ hv
        cases some_i (he.symm.trans hx')
        exact .cons (rep_imm rx hi) (ih hr pr)

theorem lookup_map_relabel {f : Str → NameKind → NameKind} : ∀ (names : List (Str × NameKind)) (x : Str), (names.map fun (n, k) => (n, f n k)).lookup x = (names.lookup x).map (f x)
  | [], _ => rfl
  | (n, k) :: r, x => by
    rw [List.map_cons, List.lookup_cons, List.lookup_cons]
    cases hx : x == n with
    | true =>
      have : x = n := by simpa using hx
      subst this
      rfl
    | false => exact lookup_map_relabel r x

theorem relabel_kind (scope : Scope) (cl : List (Str × Addr)) (C : Addr) (env : Env) (x : Str) : (compEnvC scope cl C env).kindOf x =
    (scope.names.lookup x).map fun k => if (k == .free && env.scope.kind == .function && env.kindOf x == some .cell) = true then .cell else k := by
  have e := lookup_map_relabel (f := fun n k => if (k == NameKind.free && env.scope.kind == .function && env.kindOf n == some .cell) = true then .cell else k) scope.names x
  refine Eq.trans ?_ e
  show List.lookup x (scope.names.map _) = _
  congr 1
  apply List.map_congr_left
  rintro ⟨n, k⟩ _
  simp only
  split <;> rfl

theorem innerV_i {y : Str} {c : Option Cell} {r : Str × Cell} (h : innerV y c = some r) : ∃ d, c = some (.val d) ∧ (y, .val d) = r := by
  rcases c with _ | c
  · exact no h
  · cases c with
    | val d => exact ⟨d, rfl, some_i h⟩
    | own => exact no h
theorem inner_lookup {names around : Names} {ρ : Rho} {y : Str} {c : Cell} (h : (inner names around ρ).lookup y = some c) :
    names.lookup y = some .free ∧ around.lookup y = some .cell ∧ ∃ d, c = .val d ∧ ρ.lookup y = some (.val d) := by
  have hm := lookup_mem h
  unfold inner at hm
  obtain ⟨⟨n, k⟩, _, he⟩ := List.mem_filterMap.mp hm
  obtain ⟨hc, he⟩ := ifx he
  obtain ⟨h1, h2⟩ := Bool.and_eq_true_iff.mp hc
  obtain ⟨d, hd, he⟩ := innerV_i he
  cases he
  exact ⟨beq_iff_eq.mp h1, beq_iff_eq.mp h2, d, rfl, hd⟩

section
variable {prog : Program} {w : World} {A : Around} {E : Value → Shared → Prop} {s : Shared} {Z : List Addr} {h₀ : Heap} {env : Env} {nm : Names} {ρ : Rho} {mg mb : Str → Option Value} {lvl : Nat} {Φ : Fns}

theorem then_ {α : Type} {t : Sem α} {P Q : α → Shared → Prop} (ht : 0 ≤ s.toks) (h : ∀ E, wpAny (model prog w) A t (fun v s' => Kp s s' ∧ P v s') E s)
    (next : ∀ v s', Kp s s' → 0 ≤ s'.toks → P v s' → Q v s') : wpAny (model prog w) A t Q E s :=
  wpAny_mono (wpAny_toks_of ht (h E)) (fun v s' x => next v s' x.2.1 x.1 x.2.2) fun _ _ x => x.2

/-- one turn's block of a comprehension -/
theorem inner_ok {scope : Scope} {cl : List (Str × Addr)} {C : Addr} {x : Str} {m : Str → Option Value} {v : Value} {d : D} {h : Heap} (k : EnvOk h₀ Z h env nm ρ) (hok : compOk scope x nm = true)
    (hcl : ∀ n, scope.names.lookup n = some .free → ∃ c, cl.lookup n = some c ∧ env.cells.lookup n = some c) (hn : h.Ns C m) (hm : m x = some v) (r : Rep Z h v d) :
    EnvOk h₀ Z h (compEnvC scope cl C env) scope.names ((x, .val d) :: inner scope.names nm ρ) := by
  unfold compOk at hok
  simp only [Bool.and_eq_true, decide_eq_true_eq, beq_iff_eq] at hok
  obtain ⟨⟨⟨hk, hall⟩, hl⟩, hx⟩ := hok
  have hx : (x == ("__debug__" : Str)) = false := by simpa using hx
  refine ⟨hk, k.glob, k.bi, k.zin, k.old, fun f hf => ?_, fun y hy => ?_, fun y c hy => ?_⟩
  · rw [relabel_kind, hf]; rfl
  · have := List.all_eq_true.mp hall _ (lookup_mem hy)
    simp at this
  · rw [List.lookup_cons] at hy
    cases hxy : y == x with
    | true =>
      have : y = x := by simpa using hxy
      subst this
      rw [hxy] at hy
      simp only [Option.some.injEq] at hy
      subst hy
      exact ⟨hx, v, .inl ⟨by rw [relabel_kind, hl]; rfl, m, hn, hm⟩, r⟩
    | false =>
      rw [hxy] at hy
      simp only at hy
      obtain ⟨h1, h2, d', rfl, h3⟩ := inner_lookup hy
      obtain ⟨hd, v', hv', r'⟩ := k.var y _ h3
      refine ⟨hd, v', ?_, r'⟩
      obtain ⟨hkc, c', hc'⟩ := k.ce y h2
      rcases hv' with ⟨hk', _⟩ | ⟨_, c, hc, hcell⟩
      · rw [hk'] at hkc; simp at hkc
      · obtain ⟨c₂, h4, h5⟩ := hcl y h1
        rw [hc] at h5
        simp only [Option.some.injEq] at h5
        subst h5
        refine .inr ⟨?_, _, h4, hcell⟩
        rw [relabel_kind, h1, hkc]
        simp [k.kind]
end
end Mine
end
section
open PySem PyProof.Rows
set_option maxRecDepth 100000
set_option Elab.async false
namespace Mine
section
variable {prog : Program} {w : World} {A : Around} {E : Value → Shared → Prop} {s : Shared} {Z : List Addr} {h₀ : Heap} {env : Env} {nm : Names} {ρ : Rho} {mg mb : Str → Option Value} {lvl : Nat} {Φ : Fns}

/-- the tests of a comprehension, as the machine runs them -/
noncomputable abbrev testsRun (ifs : List Expr) (env : Env) : Sem Bool :=
  forIn ifs true fun c r => if r = true then do let ok ← isTrue c env (eval c env); pure (ForInStep.yield ok) else pure (ForInStep.yield r)

theorem tests_false (ifs : List Expr) (env : Env) : (forIn ifs false fun c r => if r = true then do let ok ← isTrue c env (eval c env); pure (ForInStep.yield ok) else pure (ForInStep.yield r) : Sem Bool) = pure false := by
  induction ifs with
  | nil => rfl
  | cons c r ih =>
    rw [List.forIn_cons]
    simp only [Bool.false_eq_true, if_false, pure_bind]
    exact ih

theorem compOk_parts {scope : Scope} {x : Str} (hok : compOk scope x nm = true) :
    scope.kind = .function ∧ (∀ y ∈ scope.names, y.2 ≠ .cell) ∧ (∀ y ∈ scope.names, y.2 = .local → scope.names.lookup y.1 = some .local) ∧ (∀ y ∈ scope.names, y.2 = .free → nm.lookup y.1 = some .cell) ∧ scope.names.lookup x = some .local := by
  unfold compOk at hok
  simp only [Bool.and_eq_true, decide_eq_true_eq, beq_iff_eq] at hok
  obtain ⟨⟨⟨hk, hall⟩, hl⟩, hx⟩ := hok
  refine ⟨hk, fun y hy e => ?_, fun y hy e => ?_, fun y hy e => ?_, hl⟩
  all_goals
    have := List.all_eq_true.mp hall y hy
    rw [e] at this
    simpa using this

theorem comp_core {elt iter : Expr} {ifs : List Expr} {scope : Scope} {x : Str} {src out : List D} {test : D → Option Bool} {el : D → Option D} {cl : List (Str × Addr)} (ht : 0 ≤ s.toks) (k : EnvOk h₀ Z s.heap env nm ρ) (hok : compOk scope x nm = true)
    (hcl : ∀ n, scope.names.lookup n = some .free → ∃ c, cl.lookup n = some c ∧ env.cells.lookup n = some c)
    (hit : IterOk prog w A Z s (eval iter env) src) (himm : src.all D.imm = true) (he : compL test el src = some out)
    (tests : ∀ d b, test d = some b → ∀ (s' : Shared) (cenv : Env), EnvOk h₀ Z s'.heap cenv scope.names ((x, .val d) :: inner scope.names nm ρ) → 0 ≤ s'.toks → Gb prog w A s' (testsRun ifs cenv) b)
    (elts : ∀ d r, el d = some r → ∀ (s' : Shared) (cenv : Env), EnvOk h₀ Z s'.heap cenv scope.names ((x, .val d) :: inner scope.names nm ρ) → 0 ≤ s'.toks → Gv prog w A Z s' (eval elt cenv) r)
    {QQ : Addr → List Addr → List Addr → (Nat → Value → Prop) → (Nat → Heap → Prop) → Shared → Prop}
    (fin : ∀ I fp wr P St s₂, Walks prog w A I fp wr src.length P St → St 0 s₂.heap → (∀ b ∈ fp, b < s₂.heap.objs.size) → (∀ b ∈ wr, s.heap.get? b = none) → Kp s s₂ → 0 ≤ s₂.toks →
      QuietOnC prog w A env scope cl x ifs elt wr P (fun v => test (immOf v) == some true) (fun v y => ∃ r, el (immOf v) = some r ∧ r.imm = true ∧ Rep [] {} y r) s₂ →
      (∀ (vs : List Value) (ys : Array Value) h', vs.length = src.length → (∀ j v, vs[j]? = some v → P j v) → Paired (fun v y => ∃ r, el (immOf v) = some r ∧ r.imm = true ∧ Rep [] {} y r) (vs.filter (fun v => test (immOf v) == some true)) ys.toList → RepAll Z h' ys.toList out) →
      QQ I fp wr P St s₂) :
    wpAny (model prog w) A (eval iter env) (fun xv s₁ => wpAny (model prog w) A (pyIter xv) (fun it s₂ => ∃ I fp wr P St, it = .ref I ∧ QQ I fp wr P St s₂) E s₁) E s := by
  have hall := compL_tests he
  refine wpAny_mono (wpAny_toks_of ht (hit E)) (fun xv s₁ h₁ => ?_) fun _ _ y => y.2
  refine wpAny_mono (wpAny_toks_of h₁.1 h₁.2) (fun it s₂ h₂ => ?_) fun _ _ y => y.2
  obtain ⟨ht₂, I, fp, wr, P, St, rfl, W, hst, hfp, hwr, kp, hP⟩ := h₂
  have elem : ∀ i v, P i v → ∃ d, d ∈ src ∧ immOf v = d ∧ ∀ h', Rep Z h' v d := by
    intro i v hv
    obtain ⟨d, hd, r⟩ := hP i v hv
    have hm : d ∈ src := List.mem_of_getElem? hd
    have hi := List.all_eq_true.mp himm d hm
    exact ⟨d, hm, immOf_rep r hi, fun h' => rep_imm r hi⟩
  have envs : ∀ {s₃ : Shared}, (∀ b o, b ∉ wr → s₂.heap.get? b = some o → s₃.heap.get? b = some o) → Ext s.heap s₃.heap := fun hk b o e =>
    hk b o (fun hm => by rw [hwr b hm] at e; cases e) (kp.ext b o e)
  refine ⟨I, fp, wr, P, St, rfl, fin I fp wr P St s₂ W hst (fun b hb => ?_) hwr kp ht₂ ⟨?_, ?_⟩ ?_⟩
  · obtain ⟨o, ho⟩ := hfp.2 _ _ hst b hb
    exact Heap.lt_size ho
  · intro C i v s₃ m₃ E' _ hv hn hm hk' htk
    obtain ⟨d, hd, hi, hr⟩ := elem i v hv
    obtain ⟨⟨b, hb⟩, _⟩ := hall d hd
    have ko := inner_ok (C := C) (cl := cl) (k.ext (envs hk')) hok hcl hn hm (hr s₃.heap)
    refine wpAny_mono (tests d b hb s₃ _ ko (Nat.le_trans ht₂ htk) E') (fun c s₄ h₄ => ⟨?_, h₄.1⟩) fun _ _ y => y
    rw [h₄.2, hi, hb]
    cases b <;> rfl
  · intro C i v s₃ m₃ E' _ hv hp hn hm hk' htk
    obtain ⟨d, hd, hi, hr⟩ := elem i v hv
    have hp' : test d = some true := by
      rw [hi] at hp
      simpa using hp
    obtain ⟨r, he', him⟩ := (hall d hd).2 hp'
    have ko := inner_ok (C := C) (cl := cl) (k.ext (envs hk')) hok hcl hn hm (hr s₃.heap)
    refine wpAny_mono (elts d r he' s₃ _ ko (Nat.le_trans ht₂ htk) E') (fun y s₄ h₄ => ⟨⟨r, by rw [hi]; exact he', him, rep_imm h₄.2 him⟩, h₄.1⟩) fun _ _ y => y
  · intro vs ys h' hlen hPj hpair
    have hmap : vs.map immOf = src := by
      apply List.ext_getElem?
      intro j
      rw [List.getElem?_map]
      cases hj : vs[j]? with
      | none =>
        rw [List.getElem?_eq_none_iff] at hj
        rw [Option.map_none, eq_comm, List.getElem?_eq_none_iff, ← hlen]
        exact hj
      | some v =>
        obtain ⟨d, hd, r⟩ := hP j v (hPj j v hj)
        have hm : d ∈ src := List.mem_of_getElem? hd
        rw [Option.map_some, immOf_rep r (List.all_eq_true.mp himm d hm), hd]
    exact compL_out (fun v y hF => hF) (vs := vs) (by rw [hmap]; exact he) hpair

theorem gv_comp {elt iter : Expr} {ifs : List Expr} {scope : Scope} {pos px : Pos} {x : Str} {src out : List D} {test : D → Option Bool} {el : D → Option D} (ht : 0 ≤ s.toks) (k : EnvOk h₀ Z s.heap env nm ρ) (hok : compOk scope x nm = true)
    (hit : IterOk prog w A Z s (eval iter env) src) (himm : src.all D.imm = true) (hcap : src.length ≤ cap) (he : compL test el src = some out)
    (tests : ∀ d b, test d = some b → ∀ (s' : Shared) (cenv : Env), EnvOk h₀ Z s'.heap cenv scope.names ((x, .val d) :: inner scope.names nm ρ) → 0 ≤ s'.toks → Gb prog w A s' (testsRun ifs cenv) b)
    (elts : ∀ d r, el d = some r → ∀ (s' : Shared) (cenv : Env), EnvOk h₀ Z s'.heap cenv scope.names ((x, .val d) :: inner scope.names nm ρ) → 0 ≤ s'.toks → Gv prog w A Z s' (eval elt cenv) r)
    (hset : ∀ y, foldedSetIterable iter env y = pure y) :
    Gv prog w A Z s (eval (.ListComp elt [⟨.Name x px, iter, ifs, 0⟩] scope pos) env) (.list out) := by
  intro E
  obtain ⟨hk, hcell, hnames, hfree, hx⟩ := compOk_parts hok
  obtain ⟨cl, hclos, hcl⟩ := closureFor_ok env (scope := scope) fun y hy e => (k.ce _ (hfree y hy e)).2
  refine wpAny_ListComp_free (fun v => test (immOf v) == some true) (fun v y => ∃ r, el (immOf v) = some r ∧ r.imm = true ∧ Rep [] {} y r) hclos hcell hk hnames hx ?_ hset
  refine wpAny_mono (comp_core ht k hok hcl hit himm he tests elts (E := E) (QQ := fun I fp wr P St s₂ => Walks prog w A I fp wr src.length P St ∧ St 0 s₂.heap ∧ (∀ b ∈ fp, b < s₂.heap.objs.size) ∧
      QuietOnC prog w A env scope cl x ifs elt wr P (fun v => test (immOf v) == some true) (fun v y => ∃ r, el (immOf v) = some r ∧ r.imm = true ∧ Rep [] {} y r) s₂ ∧
      (∀ D h' tk ys (vs : List Value), s₂.heap.get? D = none → h'.IsList D ys → h'.PlainList D ys → vs.length = src.length → (∀ j v, vs[j]? = some v → P j v) → Paired (fun v y => ∃ r, el (immOf v) = some r ∧ r.imm = true ∧ Rep [] {} y r) (vs.filter (fun v => test (immOf v) == some true)) ys.toList →
        (∀ b o, b ∉ wr → s₂.heap.get? b = some o → h'.get? b = some o) → Kp s { s₂ with heap := h', toks := tk } ∧ Rep Z h' (.ref D) (.list out))) ?_)
    (fun _ _ h => wpAny_mono h (fun _ _ h => ?_) fun _ _ y => y) fun _ _ y => y
  · intro I fp wr P St s₂ W hst hfp hwr kp _ hq hout
    refine ⟨W, hst, hfp, hq, fun D h' tk ys vs hD hl _ hlen hPj hpair hk' => ?_⟩
    have ex : Ext s.heap h' := fun b o e => hk' b o (fun hm => by rw [hwr b hm] at e; cases e) (kp.ext b o e)
    have hDZ : D ∉ Z := fun hm => by
      obtain ⟨o, ho⟩ := k.zin D hm
      rw [kp.ext _ _ ho] at hD
      cases hD
    refine ⟨?_, .list hDZ (vs := ys.toList) (by simpa using hl) (hout vs ys h' hlen hPj hpair)⟩
    obtain ⟨h2, t2, rfl, _⟩ := kp
    exact ⟨h', tk, rfl, ex⟩
  · obtain ⟨I, fp, wr, P, St, hI, W, hst, hfp, hq, hQ⟩ := h
    exact ⟨I, fp, wr, _, P, St, hI, W, by rw [← capL]; exact hcap, hst, hfp, hq, hQ⟩
end
end Mine
end
section
open PySem PyProof.Rows
set_option maxRecDepth 100000
set_option Elab.async false
namespace Mine
section
variable {prog : Program} {w : World} {h₀ : Heap} {mg mb : Str → Option Value} {lvl : Nat} {Φ : Fns}

theorem star_e {e : Expr} {nm : Names} {ρ : Rho} {d : D} (h : ev Φ e nm ρ = some d) (r : List Expr) (env : Env) : starEach (e :: r) env = (false, eval e env) :: starEach r env := by
  cases e <;> first | rfl | exact no h
theorem bin2_i {op : Operator} {x y : Option D} {d : D} (h : bin2 op x y = some d) : ∃ a b, x = some a ∧ y = some b ∧ binop op a b = some d := by
  cases x <;> first | exact no h | (cases y <;> first | exact no h | exact ⟨_, _, rfl, rfl, h⟩)
theorem cmp2_i {op : CmpOp} {x y : Option D} {d : Bool} (h : cmp2 op x y = some d) : ∃ a b, x = some a ∧ y = some b ∧ cmp op a b = some d := by
  cases x <;> first | exact no h | (cases y <;> first | exact no h | exact ⟨_, _, rfl, rfl, h⟩)
theorem idxO_i {x y : Option D} {d : D} (h : idxO x y = some d) : ∃ a b, x = some a ∧ y = some b ∧ index a b = some d := by
  cases x <;> first | exact no h | (cases y <;> first | exact no h | exact ⟨_, _, rfl, rfl, h⟩)
theorem cons2_i {x : Option D} {y : Option (List D)} {ds : List D} (h : cons2 x y = some ds) : ∃ a r, x = some a ∧ y = some r ∧ a :: r = ds := by
  cases x <;> first | exact no h | (cases y <;> first | exact no h | exact ⟨_, _, rfl, rfl, some_i h⟩)
theorem slice4_i {x y z u : Option D} {d : D} (h : slice4 x y z u = some d) : ∃ a b c e, x = some a ∧ y = some b ∧ z = some c ∧ u = some e ∧ slice a b c e = some d := by
  cases x <;> first | exact no h | skip
  cases y <;> first | exact no h | skip
  cases z <;> first | exact no h | skip
  cases u <;> first | exact no h | exact ⟨_, _, _, _, rfl, rfl, rfl, rfl, h⟩
theorem negO_i {x : Option D} {d : D} (h : negO x = some d) : ∃ i, x = some (.int i) ∧ .int (-i) = d := by
  rcases x with _ | x
  · exact no h
  · cases x <;> first | exact no h | exact ⟨_, rfl, some_i h⟩
theorem truthO_i {x : Option D} {b : Bool} (h : truthO x = some b) : ∃ d, x = some d ∧ truth d = some b := by
  cases x <;> first | exact no h | exact ⟨_, rfl, h⟩
theorem listO_i {x : Option (List D)} {d : D} (h : listO x = some d) : ∃ ds, x = some ds ∧ ds.length ≤ cap ∧ .list ds = d := by
  cases x <;> first | exact no h | exact ⟨_, rfl, ifs h⟩
theorem tupO_i {x : Option (List D)} {d : D} (h : tupO x = some d) : ∃ ds, x = some ds ∧ ds.length ≤ cap ∧ .tuple ds = d := by
  cases x <;> first | exact no h | exact ⟨_, rfl, ifs h⟩
theorem iterL_i {x : Option (List D)} {r : List D} (h : iterL x = some r) : ∃ ds, x = some ds ∧ ds.length ≤ cap ∧ ds = r := by
  cases x <;> first | exact no h | exact ⟨_, rfl, ifs h⟩
theorem iterV_i {x : Option D} {r : List D} (h : iterV x = some r) : ∃ ds, x = some (.list ds) ∧ ds.length ≤ cap ∧ ds = r := by
  rcases x with _ | x
  · exact no h
  · cases x <;> first | exact no h | exact ⟨_, rfl, ifs h⟩
theorem iterN_i {x : Option D} {r : List D} (h : iterN x = some r) : x = some (.list r) ∨ ∃ b, x = some (.bytes b) ∧ (b.map fun c => D.int c.toNat) = r := by
  rcases x with _ | x
  · exact no h
  · cases x with
    | list ds => exact .inl (by rw [(ifs h).2])
    | bytes b => exact .inr ⟨b, rfl, (ifs h).2⟩
    | _ => exact no h
theorem rangeO_i {k : Option NameKind} {x : Option (List D)} {r : List D} (h : rangeO k x = some r) : k = some .globalImplicit ∧ ∃ ds, x = some ds ∧ range? ds = some r := by
  rcases k with _ | k
  · exact no h
  · cases k <;> first | exact no h | (cases x <;> first | exact no h | exact ⟨rfl, _, rfl, h⟩)
theorem callF_i {f : Str} {k : Option NameKind} {x : Option (List D)} {r : D} (h : callF Φ f k x = some r) : k = some .globalImplicit ∧ ∃ ds, x = some ds ∧ ((builtinNames.contains f = true ∧ builtin? f ds = some r) ∨ Φ f ds = some r) := by
  rcases k with _ | k
  · exact no h
  · cases k <;> first | exact no h | (cases x <;> first | exact no h | exact ⟨rfl, _, rfl, (ite_i h).imp id And.right⟩)
theorem callM_i {m : Str} {args : List Expr} {x : Option D} {y : Option (List D)} {r : D} (h : callM m args x y = some r) : ∃ d ds, x = some d ∧ y = some ds ∧ ((m = "replace" ∧ repA d args = some r) ∨ (¬ m = "replace" ∧ method? m d ds = some r)) := by
  cases x <;> first | exact no h | (cases y <;> first | exact no h | exact ⟨_, _, rfl, rfl, ite_i h⟩)
theorem callOwn_i {m : Str} {xs : List D} {y : Option (List D)} {r : D} (h : callOwn m xs y = some r) : m = "count" ∧ ∃ i is, y = some [.int i] ∧ ints? xs = some is ∧ .int (is.count i : Nat) = r := by
  cases y with
  | none => exact no h
  | some ds =>
    obtain ⟨rfl, h⟩ := ifx h
    obtain ⟨d, rfl, h⟩ := one_i h
    obtain ⟨i, rfl, h⟩ := onI_i h
    obtain ⟨is, his, h⟩ := bnd h
    exact ⟨rfl, i, is, rfl, his, (ifs h).2⟩

theorem starEach_ok {es : List Expr} : ∀ {nm : Names} {ρ : Rho} {ds : List D}, evs Φ es nm ρ = some ds → ∀ env pos, (backTo pos (starEach es env)).any (·.1) = false ∧ starEach es env = es.map fun e => (false, eval e env) := by
  induction es with
  | nil => exact fun _ _ _ => ⟨rfl, rfl⟩
  | cons e r ih =>
    intro nm ρ ds h env pos
    obtain ⟨a, rs, ha, hr, _⟩ := cons2_i h
    obtain ⟨h1, h2⟩ := ih hr env pos
    rw [star_e ha]
    exact ⟨h1, by rw [h2]; rfl⟩

theorem constD_ok {A : Around} {s : Shared} {Z : List Addr} {env : Env} {c : Const} {k : Nat} {pos : Pos} {d : D} (h : constD c = some d) : Gv prog w A Z s (eval (.Constant c k pos) env) d := by
  intro E
  cases c with
  | none => cases some_i h; exact fun _ _ _ => ⟨.refl _, .none⟩
  | bool b => cases some_i h; exact fun _ _ _ => ⟨.refl _, .bool _⟩
  | int i => cases some_i h; exact fun _ _ _ => ⟨.tok, .int _ _⟩
  | str x => cases some_i h; exact fun _ _ _ => ⟨.tok, .str _ _⟩
  | bytes b => cases some_i h; exact fun _ _ _ => ⟨.tok, .bytes _ _⟩
  | _ => exact no h

theorem marks_ok {e : Expr} {nm : Names} {ρ : Rho} {d : D} (h : ev Φ e nm ρ = some d) (op : CmpOp) : behindInMarks op e = false := by
  cases e <;> first | rfl | exact no h

theorem fset_ok {e : Expr} {nm : Names} {ρ : Rho} {ds : List D} (h : evI Φ e nm ρ = some ds) (env : Env) (x : Value) : foldedSetIterable e env x = pure x := by
  cases e <;> first | rfl | exact no h

theorem bval_cases (f : Str) : (∃ n, bval f = .builtin n) ∨ (∃ n, bval f = .type n) := by
  unfold bval
  repeat' split
  all_goals first | exact .inl ⟨_, rfl⟩ | exact .inr ⟨_, rfl⟩

theorem typed_list {s : Shared} {a : Addr} {vs : Array Value} (h : s.heap.IsList a vs) : ∃ T id, s.TypeIs (.ref a) T ∧ typeLookup (.type T) "__getitem__" = pure (some (.builtin id)) := ⟨"list", _, h.typeIs, slot_list_getitem.lookup⟩

theorem sub_typed {s : Shared} {Z : List Addr} {v : Value} {d : D} (r : Rep Z s.heap v d) (hd : (∃ xs, d = .list xs) ∨ (∃ x, d = .str x) ∨ (∃ b, d = .bytes b)) :
    ∃ T id, s.TypeIs v T ∧ typeLookup (.type T) "__getitem__" = pure (some (.builtin id)) := by
  rcases hd with ⟨xs, rfl⟩ | ⟨x, rfl⟩ | ⟨b, rfl⟩
  · cases r with
    | list hz hl ra => exact typed_list hl
  · cases r with
    | str x t => exact ⟨"str", _, typeIs_str _ _ _, F.slot_str_getitem.lookup⟩
  · cases r with
    | bytes b t => exact ⟨"bytes", _, W.typeIs_bytes _ _ _, W.FB.slot_bytes_getitem.lookup⟩

theorem slice_kinds {d l h st r : D} (e : slice d l h st = some r) : (∃ xs, d = .list xs) ∨ (∃ x, d = .str x) ∨ (∃ b, d = .bytes b) := by
  obtain ⟨_, _, e⟩ := bnd e
  obtain ⟨_, _, e⟩ := bnd e
  obtain ⟨_, _, e⟩ := bnd e
  cases d with
  | list xs => exact .inl ⟨_, rfl⟩
  | str x => exact .inr (.inl ⟨_, rfl⟩)
  | bytes b => exact .inr (.inr ⟨_, rfl⟩)
  | _ => exact no e
theorem index_kinds {d k r : D} (e : index d k = some r) : (∃ xs, d = .list xs) ∨ (∃ x, d = .str x) ∨ (∃ b, d = .bytes b) := by
  cases d with
  | list xs => exact .inl ⟨_, rfl⟩
  | str x => exact .inr (.inl ⟨_, rfl⟩)
  | _ => exact no e

theorem base_ok {o : Expr} (h : plainBase o = true) (name : Str) (env : Env) : attributeBase o name env (eval o env) = eval o env := by
  cases o with
  | Call f as ks pos => cases as with
    | nil => exact absurd h Bool.false_ne_true
    | cons a r => cases f <;> rfl
  | Constant => rfl
  | Name => rfl
  | Subscript => rfl
  | _ => exact absurd h Bool.false_ne_true

/-- a method of a text, called -/
theorem gv_method {A : Around} {s : Shared} {Z : List Addr} {env : Env} {nm : Names} {ρ : Rho} {o : Expr} {m : Str} {apos pos : Pos} {args : List Expr} {ds : List D} {r : D} {id : String} {P : Value → Shared → Prop}
    (hb : plainBase o = true) (hl : (apos.endLine == pos.line) = true) (hn : args.length < 5) (hs : evs Φ args nm ρ = some ds) (ht : 0 ≤ s.toks)
    (ho : ∀ E, wpAny (model prog w) A (eval o env) (fun v s' => Kp s s' ∧ P v s') E s)
    (hm : ∀ v s₁, Kp s s₁ → P v s₁ → ∀ (pl : Sem Bool) (Q : Value × List Value → Shared → Prop) (E : Value → Shared → Prop), Q (.builtin id, [v]) s₁ → wpAny (model prog w) A (getMethod v m pl) Q E s₁)
    (ha : ∀ v s₁, Kp s s₁ → P v s₁ → 0 ≤ s₁.toks → ∀ E, wpAny (model prog w) A (spliced (backTo pos (starEach args env))) (fun vs s₂ => Kp s s₂ ∧ Gv prog w A Z s₂ (call (.builtin id) (v :: vs)) r) E s₁) :
    Gv prog w A Z s (eval (.Call (.Attribute o m apos) args [] pos) env) r := by
  intro E
  rw [arm_eval_Call, base_ok hb]
  refine wpAny_bind (then_ ht ho fun v s₁ k₁ t₁ p₁ => ?_)
  refine wpAny_bind (wpAny_standAt ?_)
  have hplain := (starEach_ok hs env pos).1
  have hform : methodCallForm (args.length + ([] : List Keyword).length) (backTo pos (starEach args env)) (backToKw pos (keywordEach [] env)) = true := by
    unfold methodCallForm
    have h1 : (backTo pos (starEach args env)).all (fun x => !x.1) = true := by
      rw [List.all_eq_true]
      intro x hx
      have := List.any_eq_false.mp hplain x hx
      simpa using this
    rw [h1]
    rw [show backToKw pos (keywordEach [] env) = [] from rfl]; simp
    omega
  have hpos : methodCallPos true o env apos pos = pure pos := by unfold methodCallPos; simp [hl]
  unfold methodCall
  rw [hform]
  refine wpAny_bind (wpAny_holding (hm v s₁ k₁ p₁ _ _ _ ?_))
  refine wpAny_bind (wpAny_of_eq hpos ?_)
  refine callWith_b (.inl ⟨_, rfl⟩) hplain (wpAny_mono (ha v s₁ k₁ p₁ t₁ E) (fun vs s₂ h₂ => ?_) fun _ _ x => x)
  exact wpAny_mono (h₂.2 E) (fun x s₃ h₃ => ⟨h₂.1.trans h₃.1, h₃.2⟩) fun _ _ x => x

/-- where a text stands -/
structure Cx (lvl : Nat) (h₀ : Heap) (A : Around) (s : Shared) (Z : List Addr) (env : Env) (nm : Names) (ρ : Rho) : Prop where
  rm : Room A lvl
  ht : 0 ≤ s.toks
  ko : EnvOk h₀ Z s.heap env nm ρ
theorem after {α : Type} {A : Around} {s s₁ : Shared} {t : Sem α} {P : α → Shared → Prop} {E : Value → Shared → Prop} (k : Kp s s₁) (h : wpAny (model prog w) A t (fun v s' => Kp s₁ s' ∧ P v s') E s₁) : wpAny (model prog w) A t (fun v s' => Kp s s' ∧ P v s') E s₁ :=
  wpAny_mono h (fun _ _ h => ⟨k.trans h.1, h.2⟩) fun _ _ x => x
theorem Cx.th {α : Type} {A : Around} {s : Shared} {Z : List Addr} {env : Env} {nm : Names} {ρ : Rho} {E : Value → Shared → Prop} (c : Cx lvl h₀ A s Z env nm ρ) {t : Sem α} {P Q : α → Shared → Prop} (h : ∀ E, wpAny (model prog w) A t (fun v s' => Kp s s' ∧ P v s') E s)
    (next : ∀ v s', Kp s s' → Cx lvl h₀ A s' Z env nm ρ → P v s' → Q v s') : wpAny (model prog w) A t Q E s :=
  then_ c.ht h fun v s' k t p => next v s' k ⟨c.rm, t, c.ko.ext k.ext⟩ p

/-- a method of a datum, its object told -/
theorem gv_callM {A : Around} {s : Shared} {Z : List Addr} {env : Env} {nm : Names} {ρ : Rho} {o : Expr} {m : Str} {apos pos : Pos} {args : List Expr} {d0 r : D}
    (hb : plainBase o = true) (hl : (apos.endLine == pos.line) = true) (hn : args.length < 5) (c : Cx lvl h₀ A s Z env nm ρ)
    (ho : Gv prog w A Z s (eval o env) d0) (e : callM m args (some d0) (evs Φ args nm ρ) = some r)
    (hs : ∀ ds, evs Φ args nm ρ = some ds → ∀ s₁, Cx lvl h₀ A s₁ Z env nm ρ → Ga prog w A Z s₁ (spliced (backTo pos (starEach args env))) ds) :
    Gv prog w A Z s (eval (.Call (.Attribute o m apos) args [] pos) env) r := by
  obtain ⟨d', ds, hd, hds, e'⟩ := callM_i e
  clear e
  cases some_i hd
  rcases e' with ⟨rfl, e⟩ | ⟨_, e⟩
  · exact no e
  · refine gv_method (id := mid m) (P := fun v s' => Rep Z s'.heap v d0) hb hl hn hds c.ht ho (fun v s₁ k₁ r₁ pl Q E hq => method_base r₁ e s₁ pl Q E hq) fun v s₁ k₁ r₁ t₁ E => ?_
    refine wpAny_mono (hs _ hds s₁ ⟨c.rm, t₁, c.ko.ext k₁.ext⟩ E) (fun vs s₂ h₂ => ⟨k₁.trans h₂.1, ?_⟩) fun _ _ x => x
    exact method_ok (c.ko.zin.ext (k₁.trans h₂.1).ext) (r₁.ext h₂.1.ext) h₂.2 e

theorem gv_callOwn {A : Around} {s : Shared} {Z : List Addr} {env : Env} {nm : Names} {ρ : Rho} {x m : Str} {p apos pos : Pos} {args : List Expr} {xs : List D} {r : D}
    (hl : (apos.endLine == pos.line) = true) (hn : args.length < 5) (c : Cx lvl h₀ A s Z env nm ρ)
    (hx : ρ.lookup x = some (.own xs)) (e : callOwn m xs (evs Φ args nm ρ) = some r)
    (hs : ∀ ds, evs Φ args nm ρ = some ds → ∀ s₁, Cx lvl h₀ A s₁ Z env nm ρ → Ga prog w A Z s₁ (spliced (backTo pos (starEach args env))) ds) :
    Gv prog w A Z s (eval (.Call (.Attribute (.Name x p) m apos) args [] pos) env) r := by
  obtain ⟨rfl, i, is, hds, his, rfl⟩ := callOwn_i e
  obtain ⟨hd, a, vs, hv, hpl, ra⟩ := c.ko.var x _ hx
  refine gv_method (id := "list.count") (P := fun v s' => v = .ref a) rfl hl hn hds c.ht (fun E => eval_name c.ko.kind hd hv ⟨.refl _, rfl⟩) (fun v s₁ k₁ r₁ pl Q E hq => ?_) fun v s₁ k₁ r₁ t₁ E => ?_
  · subst r₁
    have hp1 := hpl.at fun o ho => k₁.ext _ o ho
    obtain ⟨n, hp2⟩ := hp1
    exact getMethod_builtin ⟨_, hp2, rfl⟩ F.plainAttrs_list F.slot_list_count F.type_list_count (fun a' e => by cases e; exact ⟨_, hp2, rfl⟩) hq
  · subst r₁
    refine wpAny_mono (hs _ hds s₁ ⟨c.rm, t₁, c.ko.ext k₁.ext⟩ E) (fun us s₂ h₂ => ⟨k₁.trans h₂.1, ?_⟩) fun _ _ x => x
    obtain ⟨k₂, ru⟩ := h₂
    cases ru with
    | cons r1 r2 =>
      cases r2
      obtain ⟨tk, rfl⟩ := rep_int r1
      have hp1 := hpl.at fun o ho => (k₁.trans k₂).ext _ o ho
      exact fun E => count_list_ints hp1.isList ((ra.ext (k₁.trans k₂).ext).ints his) ⟨.tok, .int _ _⟩

theorem fits_small {i : Int} (h : -100000000 ≤ i) (h' : i ≤ 100000000) : Builtin.Range.rangeFitsLong i = true := by
  unfold Builtin.Range.rangeFitsLong
  rw [Bool.and_eq_true, decide_eq_true_eq, decide_eq_true_eq]
  constructor <;> omega
theorem range_small1 {a b : Int} (h1 : -1000000 ≤ a) (h2 : a ≤ 1000000) (h3 : -1000000 ≤ b) (h4 : b ≤ 1000000) : Builtin.Range.small a b 1 = true := by
  unfold Builtin.Range.small
  have e : Builtin.Range.rangeFitsLong (Builtin.Range.rangeSize a b 1) = true := by
    rw [rangeSize_one]
    split <;> exact fits_small (by omega) (by omega)
  rw [fits_small (by omega) (by omega), fits_small (by omega) (by omega), fits_small (by omega) (by omega), e]
  have e2 : Builtin.Range.rangeFitsLong (b + (1 - 1)) = true := fits_small (by omega) (by omega)
  rw [if_pos (by decide), e2]
  simp
theorem rangeSize_down (a b : Int) : Builtin.Range.rangeSize a b (-1) = ((a - b).toNat : Nat) := by
  unfold Builtin.Range.rangeSize
  have h1 : ¬ ((-1 : Int) > 0) := by decide
  rw [if_neg h1]
  have h2 : -(-1 : Int) = 1 := rfl
  rw [h2, Int.ediv_one]
  split <;> omega
theorem range_small2 {a b : Int} (h1 : -1000000 ≤ a) (h2 : a ≤ 1000000) (h3 : -1000000 ≤ b) (h4 : b ≤ 1000000) : Builtin.Range.small a b (-1) = true := by
  unfold Builtin.Range.small
  have e : Builtin.Range.rangeFitsLong (Builtin.Range.rangeSize a b (-1)) = true := by
    rw [rangeSize_down]
    exact fits_small (by omega) (by omega)
  rw [fits_small (by omega) (by omega), fits_small (by omega) (by omega), fits_small (by omega) (by omega), e]
  have e2 : Builtin.Range.rangeFitsLong (b + (-1 + 1)) = true := fits_small (by omega) (by omega)
  rw [if_neg (by decide), e2]
  simp

theorem range1_i {b : Int} {ds : List D} (e : range? [.int b] = some ds) : (-1000000 ≤ b ∧ b ≤ 1000000) ∧ rangeL 0 1 b.toNat = ds := ⟨dec_and (ifs e).1, (ifs e).2⟩
theorem range2_i {a b : Int} {ds : List D} (e : range? [.int a, .int b] = some ds) : ((-1000000 ≤ a ∧ a ≤ 1000000) ∧ (-1000000 ≤ b ∧ b ≤ 1000000)) ∧ rangeL a 1 (b - a).toNat = ds := by
  obtain ⟨h, e⟩ := ifs e
  obtain ⟨h, h4⟩ := dec_and' h
  obtain ⟨h, h3⟩ := dec_and' h
  exact ⟨⟨dec_and h, h3, h4⟩, e⟩
theorem range_i {as ds : List D} (e : range? as = some ds) : (∃ b, as = [.int b]) ∨ (∃ a b, as = [.int a, .int b]) ∨ ∃ a b c, as = [.int a, .int b, .int c] := by
  rcases as with _ | ⟨x, as⟩
  · exact no e
  cases x <;> first | exact no e | skip
  rcases as with _ | ⟨y, as⟩
  · exact .inl ⟨_, rfl⟩
  cases y <;> first | exact no e | skip
  rcases as with _ | ⟨z, as⟩
  · exact .inr (.inl ⟨_, _, rfl⟩)
  cases z <;> first | exact no e | skip
  rcases as with _ | ⟨u, as⟩
  · exact .inr (.inr ⟨_, _, _, rfl⟩)
  · exact no e
theorem reps1 {Z : List Addr} {h : Heap} {vs : List Value} {a : Int} (r : RepAll Z h vs [.int a]) : ∃ t, vs = [.int a t] := by
  cases r with | cons x r => cases r; obtain ⟨t, rfl⟩ := rep_int x; exact ⟨t, rfl⟩
theorem reps2 {Z : List Addr} {h : Heap} {vs : List Value} {a b : Int} (r : RepAll Z h vs [.int a, .int b]) : ∃ t u, vs = [.int a t, .int b u] := by
  cases r with | cons x r => obtain ⟨u, rfl⟩ := reps1 r; obtain ⟨t, rfl⟩ := rep_int x; exact ⟨t, u, rfl⟩
theorem reps3 {Z : List Addr} {h : Heap} {vs : List Value} {a b c : Int} (r : RepAll Z h vs [.int a, .int b, .int c]) : ∃ t u v, vs = [.int a t, .int b u, .int c v] := by
  cases r with | cons x r => obtain ⟨u, v, rfl⟩ := reps2 r; obtain ⟨t, rfl⟩ := rep_int x; exact ⟨t, u, v, rfl⟩
theorem gv_range {A : Around} {s : Shared} {Z : List Addr} {t : Sem Value} {ta : Sem (List Value)} {as ds : List D} (hh : A.handled = none) (zi : Zin Z s.heap) (ht : 0 ≤ s.toks)
    (hs : Ga prog w A Z s ta as) (start : ∀ {Q : Value → Shared → Prop} {E : Value → Shared → Prop}, wpAny (model prog w) A ta (fun vs s₁ => wpAny (model prog w) A (call (.type "range") vs) Q E s₁) E s → wpAny (model prog w) A t Q E s)
    (e : range? as = some ds) : IterOk prog w A Z s t ds := by
  rcases range_i e with ⟨b, rfl⟩ | ⟨a, b, rfl⟩ | ⟨a, b, c, rfl⟩
  · obtain ⟨hb, rfl⟩ := range1_i e
    refine iter_range (a := 0) (b := b) (c := 1) hh zi ?_ ?_ fun E => start (then_ ht hs fun vs s₁ k₁ t₁ r₁ => ?_)
    · rw [rangeSize_one]; split <;> omega
    · exact range_small1 (by decide) (by decide) hb.1 hb.2
    · obtain ⟨_, rfl⟩ := reps1 r₁
      exact call_range_1 ⟨k₁.trans ⟨_, _, rfl, Ext.push _ _⟩, _, _, _, _, rfl, IsRange.new ..⟩
  · obtain ⟨⟨ha, hb⟩, rfl⟩ := range2_i e
    refine iter_range (a := a) (b := b) (c := 1) hh zi ?_ ?_ fun E => start (then_ ht hs fun vs s₁ k₁ t₁ r₁ => ?_)
    · rw [rangeSize_one]; split <;> omega
    · exact range_small1 ha.1 ha.2 hb.1 hb.2
    · obtain ⟨_, _, rfl⟩ := reps2 r₁
      exact call_range_2 ⟨k₁.trans ⟨_, _, rfl, Ext.push _ _⟩, _, _, _, _, rfl, IsRange.new ..⟩
  · obtain ⟨⟨rfl, hb⟩, rfl⟩ := ifs (α := List D) e
    refine iter_range (a := a) (b := b) (c := -1) hh zi ?_ ?_ fun E => start (then_ ht hs fun vs s₁ k₁ t₁ r₁ => ?_)
    · exact rangeSize_down a b
    · exact range_small2 hb.1 hb.2.1 hb.2.2.1 hb.2.2.2
    · obtain ⟨_, _, _, rfl⟩ := reps3 r₁
      exact call_range_3 (by decide) ⟨k₁.trans ⟨_, _, rfl, Ext.push _ _⟩, _, _, _, _, rfl, IsRange.new ..⟩ (.inl (PyProof.noPylong_small (by decide)))

section
variable (prog w h₀ lvl Φ)
noncomputable def OkV (e : Expr) : Prop := ∀ nm ρ d, ev Φ e nm ρ = some d → ∀ A s Z env, Cx lvl h₀ A s Z env nm ρ → Gv prog w A Z s (eval e env) d
noncomputable def OkT (e : Expr) : Prop := ∀ nm ρ b, evT Φ e nm ρ = some b → ∀ A s Z env, Cx lvl h₀ A s Z env nm ρ → Gb prog w A s (isTrue e env (eval e env)) b
noncomputable def OkI (e : Expr) : Prop := ∀ nm ρ ds, evI Φ e nm ρ = some ds → ∀ A s Z env, Cx lvl h₀ A s Z env nm ρ → IterOk prog w A Z s (eval e env) ds
/-- an expression does what the evaluator tells -/
structure Ok (e : Expr) : Prop where
  v : OkV prog w h₀ lvl Φ e
  t : OkT prog w h₀ lvl Φ e
  i : OkI prog w h₀ lvl Φ e
noncomputable def OkL (es : List Expr) : Prop := ∀ e ∈ es, Ok prog w h₀ lvl Φ e
noncomputable def OkO (e : Option Expr) : Prop := ∀ x, e = some x → Ok prog w h₀ lvl Φ x
end
theorem OkL.tail {e : Expr} {r : List Expr} (h : OkL prog w h₀ lvl Φ (e :: r)) : OkL prog w h₀ lvl Φ r := fun x hx => h x (.tail _ hx)
theorem OkL.head {e : Expr} {r : List Expr} (h : OkL prog w h₀ lvl Φ (e :: r)) : Ok prog w h₀ lvl Φ e := h e (.head _)

theorem evs_okL {es : List Expr} : OkL prog w h₀ lvl Φ es → ∀ {nm ρ ds}, evs Φ es nm ρ = some ds → ∀ {A s Z env}, Cx lvl h₀ A s Z env nm ρ → ∀ pos, Ga prog w A Z s (spliced (backTo pos (starEach es env))) ds := by
  induction es with
  | nil =>
    intro _ nm ρ ds h A s Z env c pos E
    cases some_i h
    exact Calls.spliced_nil ⟨.refl _, .nil⟩
  | cons e r ih =>
    intro hl nm ρ ds h A s Z env c pos E
    obtain ⟨a, rs, ha, hr, rfl⟩ := cons2_i h
    exact spliced_more (c.th (hl.head.v _ _ _ ha _ _ _ _ c) fun v s₁ k₁ c₁ r₁ => c₁.th (ih hl.tail hr c₁ pos) fun vs s₂ k₂ c₂ r₂ => ⟨k₁.trans k₂, .cons (r₁.ext k₂.ext) r₂⟩) (star_e ha _ _)
theorem evAt_okL {es : List Expr} : OkL prog w h₀ lvl Φ es → ∀ {nm ρ b}, evA Φ es nm ρ = some b → ∀ {A s Z env}, Cx lvl h₀ A s Z env nm ρ → Gb prog w A s (testsRun es env) b := by
  induction es with
  | nil =>
    intro _ nm ρ b h A s Z env c E
    cases some_i h
    exact wpAny_pure ⟨.refl _, rfl⟩
  | cons e r ih =>
    intro hl nm ρ b h A s Z env c E
    unfold testsRun
    rw [List.forIn_cons, if_pos rfl]
    rcases ifO_i h with ⟨hc, h⟩ | ⟨hc, h⟩
    · refine wpAny_bind (wpAny_bind (c.th (hl.head.t _ _ _ hc _ _ _ _ c) fun c' s₁ k₁ c₁ e₁ => wpAny_pure ?_))
      subst e₁
      exact after k₁ (ih hl.tail h c₁ E)
    · refine wpAny_bind (wpAny_bind (c.th (hl.head.t _ _ _ hc _ _ _ _ c) fun c' s₁ k₁ c₁ e₁ => wpAny_pure ?_))
      subst e₁
      cases some_i h
      exact wpAny_of_eq (tests_false r env) ⟨k₁, rfl⟩
theorem evA_okL {es : List Expr} : OkL prog w h₀ lvl Φ es → ∀ {nm ρ b}, evA Φ es nm ρ = some b → ∀ {A s Z env}, Cx lvl h₀ A s Z env nm ρ → ∀ pos whole, Gb prog w A s (isTrue (.BoolOp .And es pos) env whole) b := by
  induction es with
  | nil =>
    intro _ nm ρ b h A s Z env c pos whole E
    cases some_i h
    exact isTrue_and_nil ⟨.refl _, rfl⟩
  | cons e r ih =>
    intro hl nm ρ b h A s Z env c pos whole E
    rcases ifO_i h with ⟨hc, h⟩ | ⟨hc, h⟩
    · refine isTrue_and (c.th (hl.head.t _ _ _ hc _ _ _ _ c) fun c' s₁ k₁ c₁ e₁ => ?_)
      subst e₁
      exact after k₁ (ih hl.tail h c₁ pos whole E)
    · refine isTrue_and (c.th (hl.head.t _ _ _ hc _ _ _ _ c) fun c' s₁ k₁ c₁ e₁ => ?_)
      subst e₁
      cases some_i h
      exact ⟨k₁, rfl⟩
theorem evR_okL {es : List Expr} : OkL prog w h₀ lvl Φ es → ∀ {nm ρ b}, evR Φ es nm ρ = some b → ∀ {A s Z env}, Cx lvl h₀ A s Z env nm ρ → ∀ pos whole, Gb prog w A s (isTrue (.BoolOp .Or es pos) env whole) b := by
  induction es with
  | nil =>
    intro _ nm ρ b h A s Z env c pos whole E
    cases some_i h
    exact isTrue_or_nil ⟨.refl _, rfl⟩
  | cons e r ih =>
    intro hl nm ρ b h A s Z env c pos whole E
    rcases ifO_i h with ⟨hc, h⟩ | ⟨hc, h⟩
    · refine isTrue_or (c.th (hl.head.t _ _ _ hc _ _ _ _ c) fun c' s₁ k₁ c₁ e₁ => ?_)
      subst e₁
      cases some_i h
      exact ⟨k₁, rfl⟩
    · refine isTrue_or (c.th (hl.head.t _ _ _ hc _ _ _ _ c) fun c' s₁ k₁ c₁ e₁ => ?_)
      subst e₁
      exact after k₁ (ih hl.tail h c₁ pos whole E)
theorem evO_okO {e : Option Expr} (ho : OkO prog w h₀ lvl Φ e) {nm ρ d} (h : evO Φ e nm ρ = some d) {A s Z env} (c : Cx lvl h₀ A s Z env nm ρ) : Gv prog w A Z s (evalPart e env) d := by
  cases e with
  | none =>
    cases some_i h
    exact fun E => wpAny_pure ⟨.refl _, .none⟩
  | some e => exact (ho e rfl).v _ _ _ h _ _ _ _ c

theorem tOfV {e : Expr} (hv : OkV prog w h₀ lvl Φ e) (he : ∀ env whole, isTrue e env whole = (do let v ← whole; standAt e.pos; holding [v] (truthy v))) (ht : ∀ nm ρ, evT Φ e nm ρ = truthO (ev Φ e nm ρ)) : OkT prog w h₀ lvl Φ e := by
  intro nm ρ b h A s Z env c E
  rw [ht] at h
  obtain ⟨d, hd, h⟩ := truthO_i h
  exact isTrue_plain (c.th (hv _ _ _ hd _ _ _ _ c) fun v s₁ k₁ c₁ r₁ => after k₁ (truth_ok r₁ h E)) (he _ _)
theorem ok_bad {e : Expr} (h : ∀ nm ρ, rv Φ e nm ρ = bad) : Ok prog w h₀ lvl Φ e :=
  ⟨fun nm ρ _ h' => no ((congrArg Res.v (h nm ρ)).symm.trans h'), fun nm ρ _ h' => no ((congrArg Res.t (h nm ρ)).symm.trans h'), fun nm ρ _ h' => no ((congrArg Res.i (h nm ρ)).symm.trans h')⟩
theorem ok_const (k : Const) (n : Nat) (pos : Pos) : Ok prog w h₀ lvl Φ (.Constant k n pos) := ⟨fun _ _ _ h _ _ _ _ _ => constD_ok h, fun _ _ _ h => no h, fun _ _ _ h => no h⟩
theorem ok_name (x : Str) (pos : Pos) : Ok prog w h₀ lvl Φ (.Name x pos) := by
  have hv : OkV prog w h₀ lvl Φ (.Name x pos) := fun _ _ _ h _ _ _ _ c => gv_name c.ko h
  refine ⟨hv, tOfV hv (fun _ _ => rfl) fun _ _ => rfl, fun nm ρ ds h A s Z env c => ?_⟩
  rcases iterN_i h with hx | ⟨b, hx, rfl⟩
  · exact iter_list c.rm.1 c.ko.zin (gv_name c.ko hx)
  · exact iter_bytes c.rm.1 c.ko.zin (gv_name c.ko hx)
theorem ok_bin {l r : Expr} (op : Operator) (pos : Pos) (hl : Ok prog w h₀ lvl Φ l) (hr : Ok prog w h₀ lvl Φ r) : Ok prog w h₀ lvl Φ (.BinOp l op r pos) := by
  have hv : OkV prog w h₀ lvl Φ (.BinOp l op r pos) := by
    intro nm ρ d h A s Z env c E
    obtain ⟨a, b, ha, hb, h⟩ := bin2_i h
    exact wpAny_BinOp (c.th (hl.v _ _ _ ha _ _ _ _ c) fun v s₁ k₁ c₁ r₁ => c₁.th (hr.v _ _ _ hb _ _ _ _ c₁) fun u s₂ k₂ c₂ r₂ => after (k₁.trans k₂) (binop_ok c₂.ko.zin (r₁.ext k₂.ext) r₂ h E))
  exact ⟨hv, tOfV hv (fun _ _ => rfl) fun _ _ => rfl, fun _ _ _ h => no h⟩
theorem ok_un {x : Expr} (op : UnaryOp) (pos : Pos) (hx : Ok prog w h₀ lvl Φ x) : Ok prog w h₀ lvl Φ (.UnaryOp op x pos) := by
  cases op with
  | USub =>
    refine ⟨fun nm ρ d h A s Z env c E => ?_, fun _ _ _ h => no h, fun _ _ _ h => no h⟩
    obtain ⟨i, hi, rfl⟩ := negO_i h
    refine wpAny_UnaryOp (c.th (hx.v _ _ _ hi _ _ _ _ c) fun v s₁ k₁ c₁ r₁ => ?_)
    obtain ⟨t, rfl⟩ := rep_int r₁
    exact after k₁ (neg_ok (Z := Z) E)
  | Not =>
    refine ⟨fun _ _ _ h => no h, fun nm ρ d h A s Z env c E => ?_, fun _ _ _ h => no h⟩
    obtain ⟨b, hb, rfl⟩ := mpd h
    refine isTrue_not (c.th (hx.t _ _ _ hb _ _ _ _ c) fun c' s₁ k₁ c₁ e₁ => ?_)
    subst e₁
    exact ⟨k₁, rfl⟩
  | _ => exact ok_bad fun _ _ => rfl
theorem ok_bool {es : List Expr} (op : BoolOp) (pos : Pos) (hl : OkL prog w h₀ lvl Φ es) : Ok prog w h₀ lvl Φ (.BoolOp op es pos) := by
  cases op with
  | And => exact ⟨fun _ _ _ h => no h, fun _ _ _ h _ _ _ _ c => evA_okL hl h c pos _, fun _ _ _ h => no h⟩
  | Or => exact ⟨fun _ _ _ h => no h, fun _ _ _ h _ _ _ _ c => evR_okL hl h c pos _, fun _ _ _ h => no h⟩
theorem ok_if {t b o : Expr} (pos : Pos) (ht : Ok prog w h₀ lvl Φ t) (hb : Ok prog w h₀ lvl Φ b) (ho : Ok prog w h₀ lvl Φ o) : Ok prog w h₀ lvl Φ (.IfExp t b o pos) := by
  refine ⟨fun nm ρ d h A s Z env c E => ?_, fun _ _ _ h => no h, fun _ _ _ h => no h⟩
  rcases ifO_i h with ⟨hc, h⟩ | ⟨hc, h⟩
  · refine wpAny_IfExp (c.th (ht.t _ _ _ hc _ _ _ _ c) fun c' s₁ k₁ c₁ e₁ => ?_)
    subst e₁
    exact after k₁ (hb.v _ _ _ h _ _ _ _ c₁ E)
  · refine wpAny_IfExp (c.th (ht.t _ _ _ hc _ _ _ _ c) fun c' s₁ k₁ c₁ e₁ => ?_)
    subst e₁
    exact after k₁ (ho.v _ _ _ h _ _ _ _ c₁ E)
theorem ok_list {es : List Expr} (pos : Pos) (hl : OkL prog w h₀ lvl Φ es) : Ok prog w h₀ lvl Φ (.List es pos) := by
  have key : ∀ nm ρ ds, evs Φ es nm ρ = some ds → ds.length ≤ cap → ∀ A s Z env, Cx lvl h₀ A s Z env nm ρ → Gv prog w A Z s (eval (.List es pos) env) (.list ds) := fun nm ρ ds h hc A s Z env c E =>
    List_ (c.th (evs_okL hl h c pos) fun vs s₁ k₁ c₁ r₁ => after k₁ (gv_newList c₁.ko.zin r₁ hc E))
  refine ⟨fun nm ρ d h A s Z env c => ?_, fun _ _ _ h => no h, fun nm ρ ds h A s Z env c => ?_⟩
  · obtain ⟨ds, hd, hc, rfl⟩ := listO_i h
    exact key _ _ _ hd hc _ _ _ _ c
  · obtain ⟨ds, hd, hc, rfl⟩ := iterL_i h
    exact iter_list c.rm.1 c.ko.zin (key _ _ _ hd hc _ _ _ _ c)
theorem ok_tup {es : List Expr} (k : Nat) (pos : Pos) (hl : OkL prog w h₀ lvl Φ es) : Ok prog w h₀ lvl Φ (.Tuple es k pos) := by
  refine ⟨fun nm ρ d h A s Z env c E => ?_, fun _ _ _ h => no h, fun _ _ _ h => no h⟩
  obtain ⟨ds, hd, hc, rfl⟩ := tupO_i h
  exact Tuple_ (c.th (evs_okL hl hd c pos) fun vs s₁ k₁ c₁ r₁ => after k₁ (gv_newTuple c₁.ko.zin r₁ hc E))
theorem ok_cmp {l : Expr} {rs : List Expr} (ops : List CmpOp) (pos : Pos) (hl : Ok prog w h₀ lvl Φ l) (hr : OkL prog w h₀ lvl Φ rs) : Ok prog w h₀ lvl Φ (.Compare l ops rs pos) := by
  rcases ops with _ | ⟨op, _ | ⟨_, _⟩⟩
  · exact ok_bad fun _ _ => rfl
  · rcases rs with _ | ⟨r, _ | ⟨_, _⟩⟩
    · exact ok_bad fun _ _ => rfl
    · have key : ∀ nm ρ b, cmp2 op (ev Φ l nm ρ) (ev Φ r nm ρ) = some b → ∀ A s Z env, Cx lvl h₀ A s Z env nm ρ → ∀ (E : Value → Shared → Prop) (Q : Value → Shared → Prop), (∀ s', Kp s s' → Q (.bool b) s') →
          wpAny (model prog w) A (eval l env) (fun v s₁ => wpAny (model prog w) A (eval r env) (fun u s₂ => wpAny (model prog w) A (compareOp op v u) Q E s₂) E s₁) E s := by
        intro nm ρ b h A s Z env c E Q hq
        obtain ⟨x, y, hx, hy, h⟩ := cmp2_i h
        refine c.th (hl.v _ _ _ hx _ _ _ _ c) fun v s₁ k₁ c₁ r₁ => c₁.th (hr.head.v _ _ _ hy _ _ _ _ c₁) fun u s₂ k₂ c₂ r₂ => ?_
        refine wpAny_mono (cmp_ok (r₁.ext k₂.ext) r₂ (c.rm.le (Nat.zero_le _)) h) (fun x s₃ h₃ => ?_) fun _ _ x => x
        rw [h₃.1, h₃.2]
        exact hq _ (k₁.trans k₂)
      have mk : ∀ nm ρ b, cmp2 op (ev Φ l nm ρ) (ev Φ r nm ρ) = some b → behindInMarks op r = false := fun nm ρ b h => by
        obtain ⟨_, _, _, hy, _⟩ := cmp2_i h
        exact marks_ok hy op
      refine ⟨fun nm ρ d h A s Z env c E => ?_, fun nm ρ b h A s Z env c E => ?_, fun _ _ _ h => no h⟩
      · obtain ⟨b, hb, rfl⟩ := mpd h
        exact wpAny_Compare1 (key _ _ _ hb _ _ _ _ c _ _ fun s' k => ⟨k, .bool _⟩) (mk _ _ _ hb)
      · exact wpAny_isTrue_Compare1 (key _ _ _ h _ _ _ _ c _ _ fun s' k => wpAny_truthy_bool ⟨k, rfl⟩) (mk _ _ _ h)
    · exact ok_bad fun _ _ => rfl
  · exact ok_bad fun _ _ => rfl
theorem sl_ok {v : Expr} {lo hi st : Option Expr} {p pos : Pos} (hv : Ok prog w h₀ lvl Φ v) (hlo : OkO prog w h₀ lvl Φ lo) (hhi : OkO prog w h₀ lvl Φ hi) (hst : OkO prog w h₀ lvl Φ st) : OkV prog w h₀ lvl Φ (.Subscript v (.Slice lo hi st p) pos) := by
  intro nm ρ d h A s Z env c E
  obtain ⟨d', l', h', s', hv', hl, hh, hs, h⟩ := slice4_i h
  refine subscript_rule (c.th (hv.v _ _ _ hv' _ _ _ _ c) fun o s₁ k₁ c₁ r₁ => wpAny_Slice (c₁.th (evO_okO hlo hl c₁) fun ol s₂ k₂ c₂ r₂ =>
    c₂.th (evO_okO hhi hh c₂) fun oh s₃ k₃ c₃ r₃ => c₃.th (evO_okO hst hs c₃) fun os s₄ k₄ c₄ r₄ => ?_))
  have kk := (((k₁.trans k₂).trans k₃).trans k₄)
  have ex := Ext.push s₄.heap { cls := .type "slice", data := .fields #[ol, oh, os] }
  have ro := (r₁.ext ((k₂.trans k₃).trans k₄).ext).ext ex
  refine ⟨sub_typed (s := { s₄ with heap := s₄.heap.push { cls := .type "slice", data := .fields #[ol, oh, os] } }) ro (slice_kinds h), ?_⟩
  exact after (kk.trans ⟨_, s₄.toks, rfl, ex⟩) (gv_slice (s := { s₄ with heap := s₄.heap.push { cls := .type "slice", data := .fields #[ol, oh, os] } }) (c₄.ko.zin.ext ex) ro ((r₂.ext (k₃.trans k₄).ext).ext ex) ((r₃.ext k₄.ext).ext ex) (r₄.ext ex) (Heap.IsSliceOf.new ..) h E)
theorem ev_index {v sl : Expr} {pos : Pos} {nm : Names} {ρ : Rho} (hne : isSl sl = false) : rv Φ (.Subscript v sl pos) nm ρ = { v := idxO (ev Φ v nm ρ) (ev Φ sl nm ρ) } :=
  show subR (isSl sl) _ _ = _ from by rw [hne]; rfl
theorem ok_sub {v sl : Expr} (pos : Pos) (hv : Ok prog w h₀ lvl Φ v) (hsl : Ok prog w h₀ lvl Φ sl) (hp : ∀ lo hi st p, sl = .Slice lo hi st p → OkO prog w h₀ lvl Φ lo ∧ OkO prog w h₀ lvl Φ hi ∧ OkO prog w h₀ lvl Φ st) : Ok prog w h₀ lvl Φ (.Subscript v sl pos) := by
  cases hs : isSl sl with
  | true =>
    obtain ⟨lo, hi, st, p, rfl⟩ := isSl_i hs
    obtain ⟨h1, h2, h3⟩ := hp lo hi st p rfl
    refine ⟨sl_ok hv h1 h2 h3, fun _ _ _ h => no h, fun nm ρ ds h A s Z env c => ?_⟩
    obtain ⟨ds, hd, hc, rfl⟩ := iterV_i h
    exact iter_list c.rm.1 c.ko.zin (sl_ok hv h1 h2 h3 _ _ _ hd _ _ _ _ c)
  | false =>
    refine ⟨fun nm ρ d h A s Z env c E => ?_, fun nm ρ b h => no ((congrArg Res.t (ev_index hs)).symm.trans h), fun nm ρ b h => no ((congrArg Res.i (ev_index hs)).symm.trans h)⟩
    obtain ⟨a, b, ha, hb, h⟩ := idxO_i ((congrArg Res.v (ev_index hs)).symm.trans h)
    refine subscript_rule (c.th (hv.v _ _ _ ha _ _ _ _ c) fun o s₁ k₁ c₁ r₁ => c₁.th (hsl.v _ _ _ hb _ _ _ _ c₁) fun i s₂ k₂ c₂ r₂ => ?_)
    exact ⟨sub_typed (r₁.ext k₂.ext) (index_kinds h), after (k₁.trans k₂) (gv_index (r₁.ext k₂.ext) r₂ h E)⟩
theorem comp_i {elt t iter : Expr} {ifs : List Expr} {asy : Int} {scope : Scope} {pos : Pos} {nm : Names} {ρ : Rho} {d : D} (h : ev Φ (.ListComp elt [⟨t, iter, ifs, asy⟩] scope pos) nm ρ = some d) :
    ∃ x px src out, t = .Name x px ∧ asy = 0 ∧ evI Φ iter nm ρ = some src ∧ src.length ≤ cap ∧ src.all D.imm = true ∧ compOk scope x nm = true ∧
      compL (fun d => evA Φ ifs scope.names ((x, .val d) :: inner scope.names nm ρ)) (fun d => ev Φ elt scope.names ((x, .val d) :: inner scope.names nm ρ)) src = some out ∧ .list out = d := by
  obtain ⟨x, hx, h⟩ := bnd h
  obtain ⟨src, hs, h⟩ := bnd h
  obtain ⟨hc, h⟩ := ifx h
  obtain ⟨out, ho, hd⟩ := mpd h
  obtain ⟨px, rfl⟩ := nameOf_i hx
  obtain ⟨hc, h4⟩ := Bool.and_eq_true_iff.mp hc
  obtain ⟨hc, h3⟩ := Bool.and_eq_true_iff.mp hc
  obtain ⟨h1, h2⟩ := dec_and hc
  exact ⟨x, px, src, out, rfl, h1, hs, h2, h3, h4, ho, hd⟩
theorem ok_comp {elt : Expr} {gens : List Comprehension} (scope : Scope) (pos : Pos) (he : Ok prog w h₀ lvl Φ elt) (hg : ∀ t iter ifs asy, gens = [⟨t, iter, ifs, asy⟩] → Ok prog w h₀ lvl Φ iter ∧ OkL prog w h₀ lvl Φ ifs) : Ok prog w h₀ lvl Φ (.ListComp elt gens scope pos) := by
  rcases gens with _ | ⟨⟨t, iter, ifs, asy⟩, _ | ⟨_, _⟩⟩
  · exact ok_bad fun _ _ => rfl
  · obtain ⟨hi, hf⟩ := hg t iter ifs asy rfl
    refine ⟨fun nm ρ d h A s Z env c => ?_, fun _ _ _ h => no h, fun _ _ _ h => no h⟩
    obtain ⟨x, px, src, out, rfl, rfl, hs, h1, h2, h3, ho, rfl⟩ := comp_i h
    exact gv_comp c.ht c.ko h3 (hi.i _ _ _ hs _ _ _ _ c) h2 h1 ho
      (fun d b hb s' cenv ki t' => evAt_okL hf hb ⟨c.rm, t', ki⟩)
      (fun d r hr s' cenv ki t' => he.v _ _ _ hr _ _ _ _ ⟨c.rm, t', ki⟩) (fset_ok hs env)
  · exact ok_bad fun _ _ => rfl
theorem call_name (G : Glo h₀ mg mb) (Fs : FnsOk prog w h₀ mg lvl Φ) {f : Str} {args : List Expr} (p pos : Pos) (hl : OkL prog w h₀ lvl Φ args) : Ok prog w h₀ lvl Φ (.Call (.Name f p) args [] pos) := by
  have sh : ∀ (env : Env), eval (.Call (.Name f p) args [] pos) env = (eval (.Name f p) env >>= fun fv => callWith pos fv [] (backTo pos (starEach args env)) (backToKw pos (keywordEach [] env))) := fun _ => rfl
  have hv : OkV prog w h₀ lvl Φ (.Call (.Name f p) args [] pos) := by
    intro nm ρ d h A s Z env c E
    obtain ⟨hf, ds, hs, h⟩ := callF_i h
    have hplain := (starEach_ok hs env pos).1
    rw [sh]
    refine wpAny_bind ?_
    rcases h with ⟨hb, h⟩ | h
    · exact eval_builtin G c.ko hf (.inl hb) (callWith_b (bval_cases f) hplain (c.th (evs_okL hl hs c pos) fun vs s₁ k₁ c₁ r₁ => after k₁ (builtin_ok c₁.ko.zin (c.rm.le (Nat.zero_le _)) r₁ h E)))
    · obtain ⟨hd, a, hv, ⟨o, fd, hof, hofd⟩, hcall⟩ := Fs f ds d h
      exact eval_fn G c.ko hf hd hv (callWith_f hplain (c.th (evs_okL hl hs c pos) fun vs s₁ k₁ c₁ r₁ => ⟨⟨o, fd, c₁.ko.old _ _ hof, hofd⟩, after k₁ (hcall A s₁ Z vs c.rm c₁.ko.old c₁.ht c₁.ko.zin r₁ E)⟩))
  refine ⟨hv, tOfV hv (fun _ _ => rfl) fun _ _ => rfl, fun nm ρ ds h A s Z env c => ?_⟩
  obtain ⟨rfl, h⟩ := ifx h
  obtain ⟨hf, as, hs, h⟩ := rangeO_i h
  refine gv_range c.rm.1 c.ko.zin c.ht (evs_okL hl hs c pos) (fun {Q E} hq => ?_) h
  rw [sh]
  exact wpAny_bind (eval_builtin G c.ko hf (.inr rfl) (callWith_b (bval_cases _) (starEach_ok hs env pos).1 hq))
theorem call_attr {o : Expr} {m : Str} {args : List Expr} (apos pos : Pos) (ho : Ok prog w h₀ lvl Φ o) (hl : OkL prog w h₀ lvl Φ args) : Ok prog w h₀ lvl Φ (.Call (.Attribute o m apos) args [] pos) := by
  refine ⟨fun nm ρ d h A s Z env c => ?_, fun _ _ _ h => no h, fun _ _ _ h => no h⟩
  obtain ⟨hc, h⟩ := ifx h
  obtain ⟨hc, hb⟩ := Bool.and_eq_true_iff.mp hc
  obtain ⟨h1, h2⟩ := dec_and' hc
  have hsub : ∀ ds, evs Φ args nm ρ = some ds → ∀ s₁, Cx lvl h₀ A s₁ Z env nm ρ → Ga prog w A Z s₁ (spliced (backTo pos (starEach args env))) ds := fun ds hds s₁ c₁ => evs_okL hl hds c₁ pos
  cases hn : nameOf o with
  | some x =>
    obtain ⟨p, rfl⟩ := nameOf_i hn
    cases hx : ρ.lookup x with
    | none => exact no ((congrArg (methN m args (evs Φ args nm ρ)) hx).symm.trans h)
    | some y =>
      have h := (congrArg (methN m args (evs Φ args nm ρ)) hx).symm.trans h
      cases y with
      | own xs => exact gv_callOwn h1 h2 c hx h hsub
      | val d' => exact gv_callM rfl h1 h2 c (gv_name c.ko (congrArg valO hx)) h hsub
  | none =>
    have h : callM m args (ev Φ o nm ρ) (evs Φ args nm ρ) = some d := by
      have e : methR (nameOf o) m args ρ (ev Φ o nm ρ) (evs Φ args nm ρ) = some d := h
      rw [hn] at e
      exact e
    cases hod : ev Φ o nm ρ with
    | none => rw [hod] at h; exact no h
    | some d' =>
      rw [hod] at h
      exact gv_callM hb h1 h2 c (ho.v _ _ _ hod _ _ _ _ c) h hsub
theorem ok_call (G : Glo h₀ mg mb) (Fs : FnsOk prog w h₀ mg lvl Φ) {f : Expr} {args : List Expr} (kws : List Keyword) (pos : Pos) (hl : OkL prog w h₀ lvl Φ args) (hf : ∀ o m p, f = .Attribute o m p → Ok prog w h₀ lvl Φ o) : Ok prog w h₀ lvl Φ (.Call f args kws pos) := by
  cases kws with
  | cons => exact ok_bad fun _ _ => rfl
  | nil =>
    cases f with
    | Name x p => exact call_name G Fs p pos hl
    | Attribute o m p => exact call_attr p pos (hf o m p rfl) hl
    | _ => exact ok_bad fun _ _ => rfl

theorem ok (G : Glo h₀ mg mb) (Fs : FnsOk prog w h₀ mg lvl Φ) : ∀ (n : Nat) (e : Expr), sizeOf e < n → Ok prog w h₀ lvl Φ e := by
  intro n
  induction n with
  | zero => exact fun _ h => absurd h (Nat.not_lt_zero _)
  | succ n ih =>
    intro e h
    have hL : ∀ {es : List Expr} {m : Nat}, 1 + sizeOf es ≤ m → m < n + 1 → OkL prog w h₀ lvl Φ es := fun {es m} h1 h2 e he => ih e (by have := List.sizeOf_lt_of_mem he; omega)
    have hO : ∀ {o : Option Expr} {m : Nat}, sizeOf o ≤ m → m < n + 1 → OkO prog w h₀ lvl Φ o := fun {o m} h1 h2 e he => ih e (by subst he; have : sizeOf (some e) = 1 + sizeOf e := rfl; omega)
    have h1 : ∀ {e : Expr} {m : Nat}, 1 + sizeOf e ≤ m → m < n + 1 → Ok prog w h₀ lvl Φ e := fun {e m} h1 h2 => ih e (by omega)
    cases e with
    | Constant k n pos => exact ok_const k n pos
    | Name x pos => exact ok_name x pos
    | BinOp l op r pos => exact ok_bin op pos (h1 (by rw [Expr.BinOp.sizeOf_spec]; omega) h) (h1 (by rw [Expr.BinOp.sizeOf_spec]; omega) h)
    | UnaryOp op x pos => exact ok_un op pos (h1 (by rw [Expr.UnaryOp.sizeOf_spec]; omega) h)
    | BoolOp op es pos => exact ok_bool op pos (hL (by rw [Expr.BoolOp.sizeOf_spec]; omega) h)
    | IfExp t b o pos => exact ok_if pos (h1 (by rw [Expr.IfExp.sizeOf_spec]; omega) h) (h1 (by rw [Expr.IfExp.sizeOf_spec]; omega) h) (h1 (by rw [Expr.IfExp.sizeOf_spec]; omega) h)
    | List es pos => exact ok_list pos (hL (by rw [Expr.List.sizeOf_spec]; omega) h)
    | Tuple es k pos => exact ok_tup k pos (hL (by rw [Expr.Tuple.sizeOf_spec]; omega) h)
    | Compare l ops rs pos => exact ok_cmp ops pos (h1 (by rw [Expr.Compare.sizeOf_spec]; omega) h) (hL (by rw [Expr.Compare.sizeOf_spec]; omega) h)
    | Subscript v sl pos =>
      refine ok_sub pos (h1 (by rw [Expr.Subscript.sizeOf_spec]; omega) h) (h1 (by rw [Expr.Subscript.sizeOf_spec]; omega) h) fun lo hi st p e => ?_
      subst e
      rw [Expr.Subscript.sizeOf_spec, Expr.Slice.sizeOf_spec] at h
      exact ⟨hO (by omega) h, hO (by omega) h, hO (by omega) h⟩
    | ListComp elt gens scope pos =>
      refine ok_comp scope pos (h1 (by rw [Expr.ListComp.sizeOf_spec]; omega) h) fun t iter ifs asy e => ?_
      subst e
      rw [Expr.ListComp.sizeOf_spec, List.cons.sizeOf_spec, Comprehension.mk.sizeOf_spec] at h
      exact ⟨h1 (by omega) h, hL (by omega) h⟩
    | Call f args kws pos =>
      refine ok_call G Fs kws pos (hL (by rw [Expr.Call.sizeOf_spec]; omega) h) fun o m p e => ?_
      subst e
      rw [Expr.Call.sizeOf_spec, Expr.Attribute.sizeOf_spec] at h
      exact h1 (by omega) h
    | Attribute => exact ⟨fun _ _ _ h => no h, fun _ _ _ h => no h, fun _ _ _ h => no h⟩
    | Slice => exact ⟨fun _ _ _ h => no h, fun _ _ _ h => no h, fun _ _ _ h => no h⟩
    | _ => exact ok_bad fun _ _ => rfl

theorem ev_ok (G : Glo h₀ mg mb) (Fs : FnsOk prog w h₀ mg lvl Φ) (e : Expr) {nm : Names} {ρ : Rho} {d : D} (h : ev Φ e nm ρ = some d) {A : Around} {s : Shared} {Z : List Addr} {env : Env} (rm : Room A lvl) (ht : 0 ≤ s.toks) (ko : EnvOk h₀ Z s.heap env nm ρ) : Gv prog w A Z s (eval e env) d :=
  (ok G Fs _ e (Nat.lt_succ_self _)).v _ _ _ h _ _ _ _ ⟨rm, ht, ko⟩
theorem evT_ok (G : Glo h₀ mg mb) (Fs : FnsOk prog w h₀ mg lvl Φ) (e : Expr) {nm : Names} {ρ : Rho} {b : Bool} (h : evT Φ e nm ρ = some b) {A : Around} {s : Shared} {Z : List Addr} {env : Env} (rm : Room A lvl) (ht : 0 ≤ s.toks) (ko : EnvOk h₀ Z s.heap env nm ρ) : Gb prog w A s (isTrue e env (eval e env)) b :=
  (ok G Fs _ e (Nat.lt_succ_self _)).t _ _ _ h _ _ _ _ ⟨rm, ht, ko⟩
theorem evI_ok (G : Glo h₀ mg mb) (Fs : FnsOk prog w h₀ mg lvl Φ) (e : Expr) {nm : Names} {ρ : Rho} {ds : List D} (h : evI Φ e nm ρ = some ds) {A : Around} {s : Shared} {Z : List Addr} {env : Env} (rm : Room A lvl) (ht : 0 ≤ s.toks) (ko : EnvOk h₀ Z s.heap env nm ρ) : IterOk prog w A Z s (eval e env) ds :=
  (ok G Fs _ e (Nat.lt_succ_self _)).i _ _ _ h _ _ _ _ ⟨rm, ht, ko⟩
theorem evs_ok (G : Glo h₀ mg mb) (Fs : FnsOk prog w h₀ mg lvl Φ) (es : List Expr) {nm : Names} {ρ : Rho} {ds : List D} (h : evs Φ es nm ρ = some ds) {A : Around} {s : Shared} {Z : List Addr} {env : Env} (rm : Room A lvl) (ht : 0 ≤ s.toks) (ko : EnvOk h₀ Z s.heap env nm ρ) (pos : Pos) : Ga prog w A Z s (spliced (backTo pos (starEach es env))) ds :=
  evs_okL (fun e _ => ok G Fs _ e (Nat.lt_succ_self _)) h ⟨rm, ht, ko⟩ pos
theorem evAt_ok (G : Glo h₀ mg mb) (Fs : FnsOk prog w h₀ mg lvl Φ) (es : List Expr) {nm : Names} {ρ : Rho} {b : Bool} (h : evA Φ es nm ρ = some b) {A : Around} {s : Shared} {Z : List Addr} {env : Env} (rm : Room A lvl) (ht : 0 ≤ s.toks) (ko : EnvOk h₀ Z s.heap env nm ρ) : Gb prog w A s (testsRun es env) b :=
  evAt_okL (fun e _ => ok G Fs _ e (Nat.lt_succ_self _)) h ⟨rm, ht, ko⟩
end
end Mine
end
section
open PySem PyProof.Rows
set_option maxRecDepth 100000
set_option Elab.async false
namespace Mine

theorem lookup_put : ∀ (ρ : Rho) (x : Str) (c : Cell) (y : Str), (put ρ x c).lookup y = if y = x then some c else ρ.lookup y
  | [], x, c, y => by
    show List.lookup y [(x, c)] = _
    rw [List.lookup_cons]
    by_cases h : y = x
    · subst h; simp
    · have : (y == x) = false := by simpa using h
      rw [this]; simp [h]
  | (n, d) :: r, x, c, y => by
    unfold put
    by_cases hn : n = x
    · subst hn
      simp only [if_true]
      rw [List.lookup_cons, List.lookup_cons]
      by_cases h : y = n
      · subst h; simp
      · have : (y == n) = false := by simpa using h
        rw [this]; simp [h]
    · simp only [hn, if_false]
      rw [List.lookup_cons, List.lookup_cons]
      by_cases h : y = n
      · subst h
        have : (y == y) = true := by simp
        simp [hn]
      · have : (y == n) = false := by simpa using h
        rw [this]
        exact lookup_put r x c y

theorem lookup_freeze (P : Pol) (line : Nat) : ∀ (ρ : Rho) (y : Str), (freeze P line ρ).lookup y = (ρ.lookup y).map fun c => match c with
    | .own ds => if P.freeze.contains (line, y) then .val (.list ds) else .own ds
    | c => c
  | [], y => rfl
  | (n, c) :: r, y => by
    have ih := lookup_freeze P line r y
    unfold freeze at ih ⊢
    rw [List.map_cons, List.lookup_cons]
    cases c with
    | val d =>
      rw [List.lookup_cons]
      cases h : y == n with
      | true => rfl
      | false => exact ih
    | own ds =>
      by_cases hc : P.freeze.contains (line, n) = true
      · simp only [hc, if_true]
        rw [List.lookup_cons]
        cases h : y == n with
        | true =>
          have : y = n := by simpa using h
          subst this
          simp only [Option.map_some, hc, if_true]
        | false => exact ih
      · have hc' : P.freeze.contains (line, n) = false := by simpa using hc
        simp only [hc', Bool.false_eq_true, if_false]
        rw [List.lookup_cons]
        cases h : y == n with
        | true =>
          have : y = n := by simpa using h
          subst this
          simp only [Option.map_some, hc', Bool.false_eq_true, if_false]
        | false => exact ih

theorem ns_inj {h : Heap} {a : Addr} {m m' : Str → Option Value} (x : h.Ns a m) (y : h.Ns a m') : m = m' := by
  obtain ⟨o, es, ep, ho, hd, _, hm⟩ := x
  obtain ⟨o', es', ep', ho', hd', _, hm'⟩ := y
  rw [ho] at ho'
  cases ho'
  rw [hd] at hd'
  cases hd'
  funext n
  rw [← hm n, ← hm' n]

/-- what stays of a frame -/
structure Sta (env : Env) : Prop where
  kind : env.scope.kind = .function
  glob : env.globals = mainGlobals
  bi : env.builtins = builtinsNs
  ce : ∀ y, env.scope.names.lookup y = some .cell → ∃ c, env.cells.lookup y = some c
  apart : ∀ n n' c, env.cells.lookup n = some c → env.cells.lookup n' = some c → n = n'

/-- a frame under way -/
structure Fm (h₀ g : Heap) (Z : List Addr) (env : Env) (Y : List Addr) (oa : Str → Addr) (h : Heap) (ρ : Rho) : Prop where
  sta : Sta env
  zin : Zin (Y ++ Z) h
  old : Ext h₀ g
  keep : Ext g h
  fresh : ∀ b ∈ Y, g.get? b = none
  dis : ∀ b ∈ Y, b ∉ Z
  loc : env.locals ∈ Y
  ns : ∃ m, h.Ns env.locals m
  cell : ∀ n c, env.cells.lookup n = some c → c ∈ Y ∧ ∃ v, h.IsCell c v
  dbg : ∀ x c, ρ.lookup x = some c → (x == ("__debug__" : Str)) = false
  val : ∀ x d, ρ.lookup x = some (.val d) → ∃ v, VarAt h env x v ∧ Rep (Y ++ Z) h v d
  own : ∀ x ds, ρ.lookup x = some (.own ds) → oa x ∈ Y ∧ VarAt h env x (.ref (oa x)) ∧ ∃ vs, h.PlainList (oa x) vs.toArray ∧ RepAll (Y ++ Z) h vs ds
  ownap : ∀ x y ds es, ρ.lookup x = some (.own ds) → ρ.lookup y = some (.own es) → oa x = oa y → x = y

structure Step (Y : List Addr) (s : Shared) (Y' : List Addr) (s' : Shared) : Prop where
  sh : ∃ h t, s' = { s with heap := h, toks := t }
  tk : 0 ≤ s'.toks
  keep : ∀ b o, b ∉ Y → s.heap.get? b = some o → s'.heap.get? b = some o
  sub : ∀ b ∈ Y', b ∈ Y ∨ s.heap.get? b = none

noncomputable def FlowIs (Z : List Addr) (h : Heap) : Flow → Fl → Prop
  | .next, .next => True
  | .brk, .brk => True
  | .cont, .cont => True
  | .ret v, .ret d => Rep Z h v d
  | _, _ => False

noncomputable def Done (h₀ g : Heap) (Z : List Addr) (env : Env) (s : Shared) (Y : List Addr) (f : Flow) (fl : Fl) (ρ' : Rho) (s' : Shared) : Prop :=
  ∃ Y' oa', Step Y s Y' s' ∧ Fm h₀ g Z env Y' oa' s'.heap ρ' ∧ FlowIs (Y' ++ Z) s'.heap f fl

theorem Step.refl {Y : List Addr} {s : Shared} (h : 0 ≤ s.toks) : Step Y s Y s := ⟨⟨s.heap, s.toks, rfl⟩, h, fun _ _ _ e => e, fun _ hb => .inl hb⟩
theorem Step.trans {Y Y' Y'' : List Addr} {s s' s'' : Shared} (x : Step Y s Y' s') (y : Step Y' s' Y'' s'') : Step Y s Y'' s'' := by
  refine ⟨?_, y.tk, fun b o hb e => y.keep b o (fun hb' => ?_) (x.keep b o hb e), fun b hb => ?_⟩
  · obtain ⟨h1, t1, rfl⟩ := x.sh
    obtain ⟨h2, t2, rfl⟩ := y.sh
    exact ⟨h2, t2, rfl⟩
  · rcases x.sub b hb' with h | h
    · exact hb h
    · rw [h] at e; cases e
  · by_cases hY : b ∈ Y
    · exact .inl hY
    · right
      cases e : s.heap.get? b with
      | none => rfl
      | some o =>
        have e' := x.keep b o hY e
        rcases y.sub b hb with h | h
        · rcases x.sub b h with h | h
          · exact absurd h hY
          · rw [h] at e; cases e
        · rw [h] at e'; cases e'
theorem Step.less {Y Y' : List Addr} {s : Shared} (h : 0 ≤ s.toks) (hs : ∀ b ∈ Y', b ∈ Y) : Step Y s Y' s := ⟨⟨s.heap, s.toks, rfl⟩, h, fun _ _ _ e => e, fun b hb => .inl (hs b hb)⟩
theorem Step.kp {Y : List Addr} {s s' : Shared} (k : Kp s s') (h : 0 ≤ s'.toks) : Step Y s Y s' :=
  ⟨let ⟨h, t, e, _⟩ := k; ⟨h, t, e⟩, h, fun b o _ e => k.ext b o e, fun _ hb => .inl hb⟩

namespace Fm
variable {h₀ g : Heap} {Z : List Addr} {env : Env} {Y : List Addr} {oa : Str → Addr} {h h' : Heap} {ρ : Rho}

theorem env_ (F : Fm h₀ g Z env Y oa h ρ) : EnvOk h₀ (Y ++ Z) h env env.scope.names ρ where
  kind := F.sta.kind
  glob := F.sta.glob
  bi := F.sta.bi
  zin := F.zin
  old := F.old.trans F.keep
  gl := fun f e => e
  ce := fun y e => ⟨e, F.sta.ce y e⟩
  var := fun x c hx => by
    refine ⟨F.dbg x c hx, ?_⟩
    cases c with
    | val d => exact F.val x d hx
    | own ds =>
      obtain ⟨_, hv, vs, hp, ra⟩ := F.own x ds hx
      exact ⟨_, vs, hv, hp, ra⟩

theorem ext (F : Fm h₀ g Z env Y oa h ρ) (e : Ext h h') : Fm h₀ g Z env Y oa h' ρ where
  sta := F.sta
  zin := F.zin.ext e
  old := F.old
  keep := F.keep.trans e
  fresh := F.fresh
  dis := F.dis
  loc := F.loc
  ns := let ⟨m, hm⟩ := F.ns; ⟨m, hm.keeps e⟩
  cell := fun n c hc => ⟨(F.cell n c hc).1, let ⟨v, hv⟩ := (F.cell n c hc).2; ⟨v, hv.keeps e⟩⟩
  dbg := F.dbg
  val := fun x d hx => let ⟨v, hv, r⟩ := F.val x d hx; ⟨v, hv.ext e, r.ext e⟩
  own := fun x ds hx => let ⟨ha, hv, vs, hp, ra⟩ := F.own x ds hx; ⟨ha, hv.ext e, vs, hp.at fun o ho => e _ o ho, ra.ext e⟩
  ownap := F.ownap

theorem congr {ρ' : Rho} (F : Fm h₀ g Z env Y oa h ρ) (e : ∀ x, ρ'.lookup x = ρ.lookup x) : Fm h₀ g Z env Y oa h ρ' where
  sta := F.sta
  zin := F.zin
  old := F.old
  keep := F.keep
  fresh := F.fresh
  dis := F.dis
  loc := F.loc
  ns := F.ns
  cell := F.cell
  dbg := fun x c hx => F.dbg x c (by rw [← e]; exact hx)
  val := fun x d hx => F.val x d (by rw [← e]; exact hx)
  own := fun x ds hx => F.own x ds (by rw [← e]; exact hx)
  ownap := fun x y ds es hx hy => F.ownap x y ds es (by rw [← e]; exact hx) (by rw [← e]; exact hy)

theorem own_ne_loc (F : Fm h₀ g Z env Y oa h ρ) {x : Str} {ds : List D} (hx : ρ.lookup x = some (.own ds)) : oa x ≠ env.locals := by
  intro e
  obtain ⟨_, _, vs, ⟨n, hp⟩, _⟩ := F.own x ds hx
  obtain ⟨m, o, es, ep, ho, hd, _⟩ := F.ns
  rw [← e, hp] at ho
  cases ho
  cases hd
theorem own_ne_cell (F : Fm h₀ g Z env Y oa h ρ) {x : Str} {ds : List D} (hx : ρ.lookup x = some (.own ds)) {n : Str} {c : Addr} (hc : env.cells.lookup n = some c) : oa x ≠ c := by
  intro e
  obtain ⟨_, _, vs, ⟨k, hp⟩, _⟩ := F.own x ds hx
  obtain ⟨_, v, o, ho, hd⟩ := F.cell n c hc
  rw [← e, hp] at ho
  cases ho
  cases hd
theorem cell_ne_loc (F : Fm h₀ g Z env Y oa h ρ) {n : Str} {c : Addr} (hc : env.cells.lookup n = some c) : c ≠ env.locals := by
  intro e
  obtain ⟨m, o, es, ep, ho, hd, _⟩ := F.ns
  obtain ⟨_, v, o', ho', hd'⟩ := F.cell n c hc
  rw [e, ho] at ho'
  cases ho'
  rw [hd] at hd'
  cases hd'
end Fm

/-- the heap after a store to a name -/
structure Stored (env : Env) (x : Str) (v : Value) (a : Addr) (h h' : Heap) : Prop where
  at_ : a = env.locals ∨ ∃ n, env.cells.lookup n = some a
  same : ∀ b o, b ≠ a → h.get? b = some o → h'.get? b = some o
  new : VarAt h' env x v
  old : ∀ y u, y ≠ x → VarAt h env y u → VarAt h' env y u
  ns : ∃ m, h'.Ns env.locals m
  cell : ∀ n c, env.cells.lookup n = some c → ∃ v, h'.IsCell c v

section
variable {prog : Program} {w : World} {A : Around} {E : Value → Shared → Prop} {s : Shared} {Z : List Addr} {h₀ g : Heap} {env : Env} {ρ : Rho} {mg mb : Str → Option Value} {lvl : Nat} {Φ : Fns} {Y : List Addr} {oa : Str → Addr}

theorem stored_local {h h' : Heap} {x : Str} {v : Value} {m : Str → Option Value} (F : Fm h₀ g Z env Y oa h ρ) (hl : env.kindOf x = some .local) (hm : h.Ns env.locals m)
    (hn : h'.Ns env.locals (fun y => if y = x then some v else m y)) (hs : ∀ b o, b ≠ env.locals → h.get? b = some o → h'.get? b = some o) : Stored env x v env.locals h h' where
  at_ := .inl rfl
  same := hs
  new := .inl ⟨hl, _, hn, by simp⟩
  old := fun y u hy hv => by
    rcases hv with ⟨k, m', hm', hv⟩ | ⟨k, c, hc, o, ho, hd⟩
    · have := ns_inj hm hm'
      subst this
      exact .inl ⟨k, _, hn, by simp [hy, hv]⟩
    · exact .inr ⟨k, c, hc, o, hs _ _ (F.cell_ne_loc hc) ho, hd⟩
  ns := ⟨_, hn⟩
  cell := fun n c hc => let ⟨v, o, ho, hd⟩ := (F.cell n c hc).2; ⟨v, o, hs _ _ (F.cell_ne_loc hc) ho, hd⟩

theorem stored_cell {h h' : Heap} {x : Str} {v : Value} {a : Addr} (F : Fm h₀ g Z env Y oa h ρ) (hl : env.kindOf x = some .cell) (hc : env.cells.lookup x = some a)
    (hn : h'.IsCell a (some v)) (hs : ∀ b o, b ≠ a → h.get? b = some o → h'.get? b = some o) : Stored env x v a h h' where
  at_ := .inr ⟨x, hc⟩
  same := hs
  new := .inr ⟨hl, a, hc, hn⟩
  old := fun y u hy hv => by
    rcases hv with ⟨k, m', hm', hv⟩ | ⟨k, c, hc', o, ho, hd⟩
    · obtain ⟨o, es, ep, ho, r⟩ := hm'
      exact .inl ⟨k, m', ⟨o, es, ep, hs _ _ (Ne.symm (F.cell_ne_loc hc)) ho, r⟩, hv⟩
    · exact .inr ⟨k, c, hc', o, hs _ _ (fun e => hy (F.sta.apart y x c hc' (e ▸ hc))) ho, hd⟩
  ns := by
    obtain ⟨m, o, es, ep, ho, r⟩ := F.ns
    exact ⟨m, o, es, ep, hs _ _ (Ne.symm (F.cell_ne_loc hc)) ho, r⟩
  cell := fun n c hc' => by
    by_cases e : c = a
    · subst e; exact ⟨_, hn⟩
    · obtain ⟨v, o, ho, hd⟩ := (F.cell n c hc').2
      exact ⟨v, o, hs _ _ e ho, hd⟩

theorem store_raw {x : Str} {v : Value} {Q : Unit → Shared → Prop} (F : Fm h₀ g Z env Y oa s.heap ρ) (hx : stOk env.scope.names x = true)
    (h : ∀ a h' t, s.toks ≤ t → Stored env x v a s.heap h' → Q () { s with heap := h', toks := t }) : wpAny (model prog w) A (storeName env x v) Q E s := by
  unfold stOk at hx
  simp only [Bool.and_eq_true, Bool.or_eq_true, beq_iff_eq] at hx
  rcases hx.2 with hl | hl
  · obtain ⟨m, hm⟩ := F.ns
    refine wpAny_storeName_local (env := env) hl hm (fun h' hn hs => h _ h' _ (Nat.le_succ _) (stored_local F hl hm hn fun b o hb e => (hs.2 b hb).trans e)) ?_
    rw [F.sta.kind]; rfl
  · obtain ⟨c, hc⟩ := F.sta.ce x hl
    obtain ⟨_, v₀, hv₀⟩ := F.cell x c hc
    exact wpAny_storeName_cell F.sta.kind hl hc hv₀ fun h' hn hs => h c h' s.toks (Nat.le_refl _) (stored_cell F hl hc hn fun b o hb e => (hs.2 b hb).trans e)

theorem Stored.mem {h h' : Heap} {x : Str} {v : Value} {a : Addr} (S : Stored env x v a h h') (F : Fm h₀ g Z env Y oa h ρ) : a ∈ Y := by
  rcases S.at_ with rfl | ⟨n, hn⟩
  · exact F.loc
  · exact (F.cell n a hn).1

theorem Stored.rep {h h' : Heap} {x : Str} {v : Value} {a : Addr} (S : Stored env x v a h h') (F : Fm h₀ g Z env Y oa h ρ) {u : Value} {d : D} (r : Rep (Y ++ Z) h u d) : Rep (Y ++ Z) h' u d :=
  r.mono fun b o hb e => ⟨S.same b o (fun q => hb (q ▸ List.mem_append_left _ (S.mem F))) e, hb⟩
theorem Stored.repAll {h h' : Heap} {x : Str} {v : Value} {a : Addr} (S : Stored env x v a h h') (F : Fm h₀ g Z env Y oa h ρ) {u : List Value} {d : List D} (r : RepAll (Y ++ Z) h u d) : RepAll (Y ++ Z) h' u d :=
  r.mono fun b o hb e => ⟨S.same b o (fun q => hb (q ▸ List.mem_append_left _ (S.mem F))) e, hb⟩
theorem Stored.zin {h h' : Heap} {x : Str} {v : Value} {a : Addr} (S : Stored env x v a h h') {W : List Addr} (z : Zin W h) : Zin W h' := by
  intro b hb
  obtain ⟨o, ho⟩ := z b hb
  by_cases e : b = a
  · subst e
    rcases S.at_ with rfl | ⟨n, hn⟩
    · obtain ⟨m, o, _, _, ho, _⟩ := S.ns; exact ⟨o, ho⟩
    · obtain ⟨v, o, ho, _⟩ := S.cell n _ hn; exact ⟨o, ho⟩
  · exact ⟨o, S.same b o e ho⟩
theorem Stored.plain {h h' : Heap} {x : Str} {v : Value} {a : Addr} (S : Stored env x v a h h') (F : Fm h₀ g Z env Y oa h ρ) {l : Addr} {items : Array Value} (p : h.PlainList l items) : h'.PlainList l items := by
  obtain ⟨n, hp⟩ := p
  refine ⟨n, S.same _ _ (fun e => ?_) hp⟩
  subst e
  rcases S.at_ with e | ⟨m, hm⟩
  · obtain ⟨m, o, es, ep, ho, hd, _⟩ := F.ns
    rw [← e, hp] at ho
    cases ho
    cases hd
  · obtain ⟨_, v, o, ho, hd⟩ := F.cell m _ hm
    rw [hp] at ho
    cases ho
    cases hd

/-- what is stored, as a cell -/
noncomputable def CellIs (Z Y : List Addr) (h : Heap) (v : Value) (others : Addr → Prop) : Cell → Prop
  | .val d => Rep (Y ++ Z) h v d
  | .own ds => ∃ a vs, v = .ref a ∧ a ∈ Y ∧ h.PlainList a vs.toArray ∧ RepAll (Y ++ Z) h vs ds ∧ ¬ others a

theorem Fm.stored {h h' : Heap} {x : Str} {v : Value} {a : Addr} {c : Cell} (F : Fm h₀ g Z env Y oa h ρ) (S : Stored env x v a h h') (hx : stOk env.scope.names x = true)
    (hc : CellIs Z Y h' v (fun b => ∃ y es, y ≠ x ∧ ρ.lookup y = some (.own es) ∧ oa y = b) c) :
    ∃ oa', Fm h₀ g Z env Y oa' h' (put ρ x c) ∧ (∀ y, y ≠ x → oa' y = oa y) ∧ ∀ ds, c = .own ds → v = .ref (oa' x) := by
  have hd : (x == ("__debug__" : Str)) = false := by
    unfold stOk at hx
    simp only [Bool.and_eq_true] at hx
    simpa using hx.1
  have haY := S.mem F
  have keep : Ext g h' := fun b o e => S.same b o (fun q => by subst q; rw [F.fresh _ haY] at e; cases e) (F.keep b o e)
  have oldOwn : ∀ y ds, ρ.lookup y = some (.own ds) → y ≠ x → oa y ∈ Y ∧ VarAt h' env y (.ref (oa y)) ∧ ∃ vs, h'.PlainList (oa y) vs.toArray ∧ RepAll (Y ++ Z) h' vs ds := fun y ds hy hyx =>
    let ⟨hm, hv, vs, hp, ra⟩ := F.own y ds hy
    ⟨hm, S.old y _ hyx hv, vs, S.plain F hp, S.repAll F ra⟩
  have oldVal : ∀ y d, ρ.lookup y = some (.val d) → y ≠ x → ∃ v, VarAt h' env y v ∧ Rep (Y ++ Z) h' v d := fun y d hy hyx =>
    let ⟨v, hv, r⟩ := F.val y d hy
    ⟨v, S.old y _ hyx hv, S.rep F r⟩
  have dbg : ∀ y c', (put ρ x c).lookup y = some c' → (y == ("__debug__" : Str)) = false := fun y c' hy => by
    rw [lookup_put] at hy
    by_cases e : y = x
    · subst e; exact hd
    · rw [if_neg e] at hy; exact F.dbg y c' hy
  have cell : ∀ n c, env.cells.lookup n = some c → c ∈ Y ∧ ∃ v, h'.IsCell c v := fun n c hc => ⟨(F.cell n c hc).1, S.cell n c hc⟩
  cases c with
  | val d =>
    refine ⟨oa, ⟨F.sta, S.zin F.zin, F.old, keep, F.fresh, F.dis, F.loc, S.ns, cell, dbg, fun y d' hy => ?_, fun y ds hy => ?_, fun y z ds es hy hz e => ?_⟩, fun _ _ => rfl, fun _ h => nomatch h⟩
    · rw [lookup_put] at hy
      by_cases e : y = x
      · subst e
        simp only [if_true, Option.some.injEq, Cell.val.injEq] at hy
        subst hy
        exact ⟨v, S.new, hc⟩
      · rw [if_neg e] at hy; exact oldVal y d' hy e
    · rw [lookup_put] at hy
      by_cases e : y = x
      · subst e; simp at hy
      · rw [if_neg e] at hy; exact oldOwn y ds hy e
    · rw [lookup_put] at hy hz
      by_cases e1 : y = x
      · subst e1; simp at hy
      · by_cases e2 : z = x
        · subst e2; simp at hz
        · rw [if_neg e1] at hy; rw [if_neg e2] at hz; exact F.ownap y z ds es hy hz e
  | own ds =>
    obtain ⟨b, vs, rfl, hb, hp, ra, hno⟩ := hc
    obtain ⟨oa', updx, upd⟩ : ∃ oa' : Str → Addr, oa' x = b ∧ ∀ y, y ≠ x → oa' y = oa y := ⟨fun y => if y = x then b else oa y, by simp, fun y h => by simp [h]⟩
    refine ⟨oa', ⟨F.sta, S.zin F.zin, F.old, keep, F.fresh, F.dis, F.loc, S.ns, cell, dbg, fun y d' hy => ?_, fun y ds' hy => ?_, fun y z ds' es hy hz e => ?_⟩, upd, fun _ _ => by rw [updx]⟩
    · rw [lookup_put] at hy
      by_cases e : y = x
      · subst e; simp at hy
      · rw [if_neg e] at hy; exact oldVal y d' hy e
    · rw [lookup_put] at hy
      by_cases e : y = x
      · subst e
        simp only [if_true, Option.some.injEq, Cell.own.injEq] at hy
        subst hy
        rw [updx]
        exact ⟨hb, S.new, vs, hp, ra⟩
      · rw [if_neg e] at hy
        rw [upd y e]
        exact oldOwn y ds' hy e
    · rw [lookup_put] at hy hz
      by_cases e1 : y = x
      · by_cases e2 : z = x
        · rw [e1, e2]
        · subst e1
          rw [if_neg e2] at hz
          rw [updx, upd z e2] at e
          exact absurd ⟨z, es, e2, hz, e.symm⟩ hno
      · by_cases e2 : z = x
        · subst e2
          rw [if_neg e1] at hy
          rw [updx, upd y e1] at e
          exact absurd ⟨y, ds', e1, hy, e⟩ hno
        · rw [if_neg e1] at hy; rw [if_neg e2] at hz
          rw [upd y e1, upd z e2] at e
          exact F.ownap y z ds' es hy hz e

theorem Stored.step {h' : Heap} {x : Str} {v : Value} {a : Addr} {t : Nat} (S : Stored env x v a s.heap h') (F : Fm h₀ g Z env Y oa s.heap ρ) (ht : 0 ≤ t) : Step Y s Y { s with heap := h', toks := t } :=
  ⟨⟨_, _, rfl⟩, ht, fun b o hb e => S.same b o (fun q => hb (q ▸ S.mem F)) e, fun _ hb => .inl hb⟩

/-- a freeze: own lists become values -/
theorem Fm.freeze {h : Heap} (F : Fm h₀ g Z env Y oa h ρ) (P : Pol) (line : Nat) : ∃ Y', Fm h₀ g Z env Y' oa h (Mine.freeze P line ρ) ∧ ∀ b ∈ Y', b ∈ Y := by
  classical
  let fz : Addr → Prop := fun b => ∃ x ds, ρ.lookup x = some (.own ds) ∧ P.freeze.contains (line, x) = true ∧ oa x = b
  let Y' := Y.filter fun b => decide (¬ fz b)
  have sub : ∀ b ∈ Y', b ∈ Y := fun b hb => (List.mem_filter.mp hb).1
  have mem : ∀ b ∈ Y, ¬ fz b → b ∈ Y' := fun b hb hn => List.mem_filter.mpr ⟨hb, by simpa using hn⟩
  have subZ : ∀ b, b ∈ Y' ++ Z → b ∈ Y ++ Z := fun b hb => by
    rcases List.mem_append.mp hb with h | h
    · exact List.mem_append_left _ (sub b h)
    · exact List.mem_append_right _ h
  refine ⟨Y', ⟨F.sta, fun b hb => F.zin b (subZ b hb), F.old, F.keep, fun b hb => F.fresh b (sub b hb), fun b hb => F.dis b (sub b hb), mem _ F.loc ?_, F.ns, fun n c hc => ⟨mem _ (F.cell n c hc).1 ?_, (F.cell n c hc).2⟩, fun x c hx => ?_, fun x d hx => ?_, fun x ds hx => ?_, fun x y ds es hx hy e => ?_⟩, sub⟩
  · rintro ⟨x, ds, hx, _, e⟩
    exact F.own_ne_loc hx e
  · rintro ⟨x, ds, hx, _, e⟩
    exact F.own_ne_cell hx hc e
  · rw [lookup_freeze] at hx
    cases hl : ρ.lookup x with
    | none => rw [hl] at hx; cases hx
    | some c' => exact F.dbg x c' hl
  · rw [lookup_freeze] at hx
    cases hl : ρ.lookup x with
    | none => rw [hl] at hx; cases hx
    | some c' =>
      rw [hl] at hx
      cases c' with
      | val d' =>
        simp only [Option.map_some, Option.some.injEq, Cell.val.injEq] at hx
        subst hx
        obtain ⟨v, hv, r⟩ := F.val x _ hl
        exact ⟨v, hv, r.sub subZ⟩
      | own ds =>
        simp only [Option.map_some, Option.some.injEq] at hx
        split at hx
        · rename_i hc
          cases hx
          obtain ⟨hm, hv, vs, hp, ra⟩ := F.own x _ hl
          refine ⟨_, hv, .list (fun hb => ?_) hp.isList (ra.sub subZ)⟩
          rcases List.mem_append.mp hb with hb | hb
          · have := (List.mem_filter.mp hb).2
            simp only [decide_eq_true_eq] at this
            exact this ⟨x, ds, hl, hc, rfl⟩
          · exact F.dis _ hm hb
        · cases hx
  · rw [lookup_freeze] at hx
    cases hl : ρ.lookup x with
    | none => rw [hl] at hx; cases hx
    | some c' =>
      rw [hl] at hx
      cases c' with
      | val d' => cases hx
      | own ds' =>
        simp only [Option.map_some, Option.some.injEq] at hx
        split at hx
        · cases hx
        · rename_i hc
          cases hx
          obtain ⟨hm, hv, vs, hp, ra⟩ := F.own x _ hl
          refine ⟨mem _ hm ?_, hv, vs, hp, ra.sub subZ⟩
          rintro ⟨y, es, hy, hyc, e⟩
          have := F.ownap y x es ds hy hl e
          subst this
          exact hc hyc
  · have un : ∀ {z zs}, (Mine.freeze P line ρ).lookup z = some (.own zs) → ∃ ws, ρ.lookup z = some (.own ws) := fun {z zs} hz => by
      rw [lookup_freeze] at hz
      cases hl : ρ.lookup z with
      | none => rw [hl] at hz; cases hz
      | some c' =>
        rw [hl] at hz
        cases c' with
        | val d' => cases hz
        | own ds' => exact ⟨ds', rfl⟩
    obtain ⟨_, hx'⟩ := un hx
    obtain ⟨_, hy'⟩ := un hy
    exact F.ownap x y _ _ hx' hy' e
end
end Mine
end
section
open PySem PyProof.Rows
set_option maxRecDepth 100000
set_option Elab.async false
namespace Mine

theorem rep_widen {Z W : List Addr} {h h' : Heap} (e : Ext h h') (hw : ∀ b ∈ W, h.get? b = none) {v : Value} {d : D} (r : Rep Z h v d) : Rep (W ++ Z) h' v d :=
  r.mono fun b o hb ho => ⟨e b o ho, fun hm => by
    rcases List.mem_append.mp hm with hm | hm
    · rw [hw b hm] at ho; cases ho
    · exact hb hm⟩
theorem repAll_widen {Z W : List Addr} {h h' : Heap} (e : Ext h h') (hw : ∀ b ∈ W, h.get? b = none) {v : List Value} {d : List D} (r : RepAll Z h v d) : RepAll (W ++ Z) h' v d :=
  r.mono fun b o hb ho => ⟨e b o ho, fun hm => by
    rcases List.mem_append.mp hm with hm | hm
    · rw [hw b hm] at ho; cases ho
    · exact hb hm⟩

theorem EnvOk.widen {h₀ : Heap} {Z W : List Addr} {h h' : Heap} {env : Env} {nm : Names} {ρ : Rho} (k : EnvOk h₀ Z h env nm ρ) (e : Ext h h') (hw : ∀ b ∈ W, h.get? b = none) (hw' : ∀ b ∈ W, ∃ o, h'.get? b = some o) :
    EnvOk h₀ (W ++ Z) h' env nm ρ where
  kind := k.kind
  glob := k.glob
  bi := k.bi
  zin := fun b hb => by
    rcases List.mem_append.mp hb with hb | hb
    · exact hw' b hb
    · exact k.zin.ext e b hb
  old := k.old.trans e
  gl := k.gl
  ce := k.ce
  var := fun x c hx => by
    refine ⟨(k.var x c hx).1, ?_⟩
    have h2 := (k.var x c hx).2
    cases c with
    | val d =>
      obtain ⟨v, hv, r⟩ := h2
      exact ⟨v, hv.ext e, rep_widen e hw r⟩
    | own ds =>
      obtain ⟨a, vs, hv, hp, ra⟩ := h2
      exact ⟨a, vs, hv.ext e, hp.at fun o ho => e _ o ho, repAll_widen e hw ra⟩

theorem none_of_ext {h h' : Heap} {b : Addr} (e : Ext h h') (hn : h'.get? b = none) : h.get? b = none := by
  cases hq : h.get? b with
  | none => rfl
  | some o => rw [e b o hq] at hn; cases hn

theorem Fm.widenZ {h₀ g : Heap} {Z W : List Addr} {env : Env} {Y : List Addr} {oa : Str → Addr} {h h' : Heap} {ρ : Rho} (F : Fm h₀ g Z env Y oa h ρ) (e : Ext h h') (hw : ∀ b ∈ W, h.get? b = none) (hw' : ∀ b ∈ W, ∃ o, h'.get? b = some o) :
    Fm h₀ g (W ++ Z) env Y oa h' ρ := by
  have F' := F.ext e
  have sw : ∀ b, b ∈ Y ++ (W ++ Z) → b ∈ W ++ (Y ++ Z) := fun b hb => by
    simp only [List.mem_append] at hb ⊢
    rcases hb with h | h | h
    · exact .inr (.inl h)
    · exact .inl h
    · exact .inr (.inr h)
  refine ⟨F.sta, fun b hb => ?_, F.old, F'.keep, F.fresh, fun b hb hm => ?_, F.loc, F'.ns, F'.cell, F.dbg, fun x d hx => ?_, fun x ds hx => ?_, F.ownap⟩
  · rcases List.mem_append.mp (sw b hb) with hb | hb
    · exact hw' b hb
    · exact F'.zin b hb
  · rcases List.mem_append.mp hm with hm | hm
    · obtain ⟨o, ho⟩ := F.zin b (List.mem_append_left _ hb)
      rw [hw b hm] at ho; cases ho
    · exact F.dis b hb hm
  · obtain ⟨v, hv, r⟩ := F.val x d hx
    exact ⟨v, hv.ext e, (rep_widen e hw r).sub sw⟩
  · obtain ⟨hm, hv, vs, hp, ra⟩ := F.own x ds hx
    exact ⟨hm, hv.ext e, vs, hp.at fun o ho => e _ o ho, (repAll_widen e hw ra).sub sw⟩

theorem Fm.widenY {h₀ g : Heap} {Z W : List Addr} {env : Env} {Y : List Addr} {oa : Str → Addr} {h h' : Heap} {ρ : Rho} (F : Fm h₀ g Z env Y oa h ρ) (e : Ext h h') (hw : ∀ b ∈ W, h.get? b = none) (hw' : ∀ b ∈ W, ∃ o, h'.get? b = some o) :
    Fm h₀ g Z env (W ++ Y) oa h' ρ := by
  have F' := F.ext e
  have as : W ++ Y ++ Z = W ++ (Y ++ Z) := List.append_assoc _ _ _
  refine ⟨F.sta, fun b hb => ?_, F.old, F'.keep, fun b hb => ?_, fun b hb hm => ?_, List.mem_append_right _ F.loc, F'.ns, fun n c hc => ⟨List.mem_append_right _ (F'.cell n c hc).1, (F'.cell n c hc).2⟩, F.dbg, fun x d hx => ?_, fun x ds hx => ?_, F.ownap⟩
  · rw [as] at hb
    rcases List.mem_append.mp hb with hb | hb
    · exact hw' b hb
    · exact F'.zin b hb
  · rcases List.mem_append.mp hb with hb | hb
    · exact none_of_ext F.keep (hw b hb)
    · exact F.fresh b hb
  · rcases List.mem_append.mp hb with hb | hb
    · obtain ⟨o, ho⟩ := F.zin b (List.mem_append_right _ hm)
      rw [hw b hb] at ho; cases ho
    · exact F.dis b hb hm
  · obtain ⟨v, hv, r⟩ := F.val x d hx
    rw [as]
    exact ⟨v, hv.ext e, rep_widen e hw r⟩
  · obtain ⟨hm, hv, vs, hp, ra⟩ := F.own x ds hx
    rw [as]
    exact ⟨List.mem_append_right _ hm, hv.ext e, vs, hp.at fun o ho => e _ o ho, repAll_widen e hw ra⟩

/-- the heap changes at addresses of Z alone -/
theorem Fm.moved {h₀ g : Heap} {Z W : List Addr} {env : Env} {Y : List Addr} {oa : Str → Addr} {h h' : Heap} {ρ : Rho} (F : Fm h₀ g (W ++ Z) env Y oa h ρ) (e : ∀ b o, b ∉ W → h.get? b = some o → h'.get? b = some o) (hw : ∀ b ∈ W, ∃ o, h'.get? b = some o) (hg : ∀ b ∈ W, g.get? b = none) :
    Fm h₀ g (W ++ Z) env Y oa h' ρ := by
  have ny : ∀ b ∈ Y, b ∉ W := fun b hb hm => F.dis b hb (List.mem_append_left _ hm)
  have va : ∀ {x v}, VarAt h env x v → VarAt h' env x v := fun {x v} hv => by
    rcases hv with ⟨k, m, ⟨o, es, ep, ho, r⟩, hv⟩ | ⟨k, c, hc, o, ho, hd⟩
    · exact .inl ⟨k, m, ⟨o, es, ep, e _ _ (ny _ F.loc) ho, r⟩, hv⟩
    · exact .inr ⟨k, c, hc, o, e _ _ (ny _ (F.cell _ _ hc).1) ho, hd⟩
  have mo : ∀ b o, b ∉ Y ++ (W ++ Z) → h.get? b = some o → h'.get? b = some o ∧ b ∉ Y ++ (W ++ Z) := fun b o hb ho =>
    ⟨e b o (fun hm => hb (List.mem_append_right _ (List.mem_append_left _ hm))) ho, hb⟩
  refine ⟨F.sta, fun b hb => ?_, F.old, fun b o ho => e b o (fun hm => by rw [hg b hm] at ho; cases ho) (F.keep b o ho), F.fresh, F.dis, F.loc, ?_, fun n c hc => ⟨(F.cell n c hc).1, ?_⟩, F.dbg, fun x d hx => ?_, fun x ds hx => ?_, F.ownap⟩
  · by_cases hb' : b ∈ W
    · exact hw b hb'
    · obtain ⟨o, ho⟩ := F.zin b hb
      exact ⟨o, e b o hb' ho⟩
  · obtain ⟨m, o, es, ep, ho, r⟩ := F.ns
    exact ⟨m, o, es, ep, e _ _ (ny _ F.loc) ho, r⟩
  · obtain ⟨_, v, o, ho, hd⟩ := F.cell n c hc
    exact ⟨v, o, e _ _ (ny _ (F.cell _ _ hc).1) ho, hd⟩
  · obtain ⟨v, hv, r⟩ := F.val x d hx
    exact ⟨v, va hv, r.mono mo⟩
  · obtain ⟨hm, hv, vs, ⟨n, hp⟩, ra⟩ := F.own x ds hx
    exact ⟨hm, va hv, vs, ⟨n, e _ _ (ny _ hm) hp⟩, ra.mono mo⟩

theorem Fm.narrow {h₀ g : Heap} {Z W : List Addr} {env : Env} {Y : List Addr} {oa : Str → Addr} {h : Heap} {ρ : Rho} (F : Fm h₀ g (W ++ Z) env Y oa h ρ) : Fm h₀ g Z env Y oa h ρ := by
  have su : ∀ b, b ∈ Y ++ Z → b ∈ Y ++ (W ++ Z) := fun b hb => by
    simp only [List.mem_append] at hb ⊢
    rcases hb with h | h
    · exact .inl h
    · exact .inr (.inr h)
  exact ⟨F.sta, fun b hb => F.zin b (su b hb), F.old, F.keep, F.fresh, fun b hb hm => F.dis b hb (List.mem_append_right _ hm), F.loc, F.ns, F.cell, F.dbg,
    fun x d hx => let ⟨v, hv, r⟩ := F.val x d hx; ⟨v, hv, r.sub su⟩, fun x ds hx => let ⟨hm, hv, vs, hp, ra⟩ := F.own x ds hx; ⟨hm, hv, vs, hp, ra.sub su⟩, F.ownap⟩

/-- values for cells; the own lists' addresses told -/
inductive CellsAre (W : List Addr) (h : Heap) : List Value → List Cell → List Addr → Prop
  | nil : CellsAre W h [] [] []
  | val {v : Value} {d : D} {vs : List Value} {cs : List Cell} {as : List Addr} : Rep W h v d → CellsAre W h vs cs as → CellsAre W h (v :: vs) (.val d :: cs) as
  | own {a : Addr} {us : List Value} {ds : List D} {vs : List Value} {cs : List Cell} {as : List Addr} : h.PlainList a us.toArray → RepAll W h us ds → a ∉ as → CellsAre W h vs cs as → CellsAre W h (.ref a :: vs) (.own ds :: cs) (a :: as)

theorem CellsAre.sub {W W' : List Addr} {h : Heap} {vs : List Value} {cs : List Cell} {as : List Addr} (x : CellsAre W h vs cs as) (e : ∀ b, b ∈ W' → b ∈ W) : CellsAre W' h vs cs as := by
  induction x with
  | nil => exact .nil
  | val r _ ih => exact .val (r.sub e) ih
  | own hp ra hn _ ih => exact .own hp (ra.sub e) hn ih
theorem CellsAre.length {W : List Addr} {h : Heap} {vs : List Value} {cs : List Cell} {as : List Addr} (x : CellsAre W h vs cs as) : vs.length = cs.length := by
  induction x with
  | nil => rfl
  | val r _ ih => simp [ih]
  | own hp ra hn _ ih => simp [ih]
theorem CellsAre.ext {W : List Addr} {h h' : Heap} {vs : List Value} {cs : List Cell} {as : List Addr} (x : CellsAre W h vs cs as) (e : Ext h h') : CellsAre W h' vs cs as := by
  induction x with
  | nil => exact .nil
  | val r _ ih => exact .val (r.ext e) ih
  | own hp ra hn _ ih => exact .own (hp.at fun o ho => e _ o ho) (ra.ext e) hn ih
theorem CellsAre.ofRep {W : List Addr} {h : Heap} : ∀ {vs : List Value} {ds : List D}, RepAll W h vs ds → CellsAre W h vs (ds.map .val) []
  | _, _, .nil => .nil
  | _, _, .cons a r => .val a (CellsAre.ofRep r)
theorem CellsAre.append {W : List Addr} {h : Heap} {vs : List Value} {cs : List Cell} {as : List Addr} (x : CellsAre W h vs cs as) {us : List Value} {es : List Cell} {bs : List Addr} (y : CellsAre W h us es bs) (dj : ∀ a ∈ as, a ∉ bs) : CellsAre W h (vs ++ us) (cs ++ es) (as ++ bs) := by
  induction x with
  | nil => exact y
  | val r _ ih => exact .val r (ih dj)
  | own hp ra hn _ ih => exact .own hp ra (fun hm => (List.mem_append.mp hm).elim hn (dj _ (.head _))) (ih fun a ha => dj a (.tail _ ha))
theorem CellsAre.reverse {W : List Addr} {h : Heap} {vs : List Value} {cs : List Cell} {as : List Addr} (x : CellsAre W h vs cs as) : CellsAre W h vs.reverse cs.reverse as.reverse := by
  induction x with
  | nil => exact .nil
  | val r _ ih =>
    rw [List.reverse_cons, List.reverse_cons]
    have := ih.append (.val r .nil) (fun a _ => by simp)
    simpa using this
  | own hp ra hn _ ih =>
    rw [List.reverse_cons, List.reverse_cons, List.reverse_cons]
    exact ih.append (.own hp ra (by simp) .nil) (fun b hb => by
      rw [List.mem_reverse] at hb
      simp only [List.mem_singleton]
      intro e
      subst e
      exact hn hb)

theorem puts_lookup : ∀ {xs : List Str} {cs : List Cell} {ρ ρ' : Rho}, puts ρ xs cs = some ρ' → xs.Nodup → ∀ y, ρ'.lookup y = ((xs.zip cs).lookup y).or (ρ.lookup y)
  | [], [], ρ, ρ', h, _, y => by simp only [puts, Option.some.injEq] at h; subst h; rfl
  | x :: xs, c :: cs, ρ, ρ', h, hn, y => by
    rw [puts] at h
    obtain ⟨hx, hn⟩ := List.nodup_cons.mp hn
    rw [puts_lookup h hn y, lookup_put, List.zip_cons_cons, List.lookup_cons]
    by_cases e : y = x
    · subst e
      have : (xs.zip cs).lookup y = none := by
        cases hq : (xs.zip cs).lookup y with
        | none => rfl
        | some c' => exact absurd (List.of_mem_zip (lookup_mem hq)).1 hx
      rw [this]
      simp
    · have : (y == x) = false := by simpa using e
      rw [this]
      simp [e]
  | [], _ :: _, _, _, h, _, _ => by simp [puts] at h
  | _ :: _, [], _, _, h, _, _ => by simp [puts] at h

theorem puts_some : ∀ {xs : List Str} {cs : List Cell} (ρ : Rho), xs.length = cs.length → ∃ ρ', puts ρ xs cs = some ρ'
  | [], [], ρ, _ => ⟨ρ, rfl⟩
  | x :: xs, c :: cs, ρ, h => by
    rw [puts]
    exact puts_some _ (by simpa using h)
  | [], _ :: _, _, h => by simp at h
  | _ :: _, [], _, h => by simp at h
theorem puts_length : ∀ {xs : List Str} {cs : List Cell} {ρ ρ' : Rho}, puts ρ xs cs = some ρ' → xs.length = cs.length
  | [], [], _, _, _ => rfl
  | x :: xs, c :: cs, ρ, ρ', h => by rw [puts] at h; simp [puts_length h]
  | [], _ :: _, _, _, h => by simp [puts] at h
  | _ :: _, [], _, _, h => by simp [puts] at h

theorem lookup_perm {α : Type} {l l' : List (Str × α)} (hp : l.Perm l') (hn : (l.map (·.1)).Nodup) (y : Str) : l.lookup y = l'.lookup y := by
  induction hp with
  | nil => rfl
  | cons x _ ih =>
    rw [List.map_cons, List.nodup_cons] at hn
    obtain ⟨a, b⟩ := x
    rw [List.lookup_cons, List.lookup_cons, ih hn.2]
  | swap x z l =>
    obtain ⟨a, b⟩ := x
    obtain ⟨c, d⟩ := z
    simp only [List.map_cons, List.nodup_cons, List.mem_cons, not_or] at hn
    rw [List.lookup_cons, List.lookup_cons, List.lookup_cons, List.lookup_cons]
    cases h1 : y == a with
    | false => rfl
    | true =>
      cases h2 : y == c with
      | false => rfl
      | true =>
        have e1 : y = a := by simpa using h1
        have e2 : y = c := by simpa using h2
        exact absurd (e2.symm.trans e1) hn.1.1
  | trans p1 _ ih1 ih2 => rw [ih1 hn, ih2 ((p1.map _).nodup_iff.mp hn)]

theorem zip_snoc {α β : Type} : ∀ {xs : List α} {cs : List β}, xs.length = cs.length → ∀ x c, (xs ++ [x]).zip (cs ++ [c]) = xs.zip cs ++ [(x, c)]
  | [], [], _, x, c => rfl
  | a :: xs, b :: cs, h, x, c => by
    rw [List.cons_append, List.cons_append, List.zip_cons_cons, zip_snoc (by simpa using h), List.zip_cons_cons]; rfl
  | [], _ :: _, h, _, _ => by simp at h
  | _ :: _, [], h, _, _ => by simp at h
theorem zip_rev {α β : Type} : ∀ {xs : List α} {cs : List β}, xs.length = cs.length → xs.reverse.zip cs.reverse = (xs.zip cs).reverse
  | [], [], _ => rfl
  | a :: xs, b :: cs, h => by
    have h' : xs.length = cs.length := by simpa using h
    rw [List.reverse_cons, List.reverse_cons, zip_snoc (by simpa using h'), zip_rev h', List.zip_cons_cons, List.reverse_cons]
  | [], _ :: _, h => by simp at h
  | _ :: _, [], h => by simp at h

theorem puts_reverse {xs : List Str} {cs : List Cell} {ρ ρ' : Rho} (h : puts ρ xs cs = some ρ') (hn : xs.Nodup) : ∃ ρ'', puts ρ xs.reverse cs.reverse = some ρ'' ∧ ∀ y, ρ'.lookup y = ρ''.lookup y := by
  have hl := puts_length h
  obtain ⟨ρ'', h''⟩ := puts_some (xs := xs.reverse) (cs := cs.reverse) ρ (by simpa using hl)
  refine ⟨ρ'', h'', fun y => ?_⟩
  rw [puts_lookup h hn, puts_lookup h'' ((List.reverse_perm xs).nodup_iff.mpr hn)]
  congr 1
  have e : xs.reverse.zip cs.reverse = (xs.zip cs).reverse := zip_rev hl
  rw [e]
  refine lookup_perm (List.reverse_perm _).symm ?_ y
  rw [List.map_fst_zip (by omega)]
  exact hn
end Mine
end
section
open PySem PyProof.Rows
set_option maxRecDepth 100000
set_option Elab.async false
namespace Mine
section
variable {prog : Program} {w : World} {A : Around} {E : Value → Shared → Prop} {s : Shared} {Z : List Addr} {h₀ g : Heap} {env : Env} {nm : Names} {ρ : Rho} {mg mb : Str → Option Value} {lvl : Nat} {Φ : Fns} {Y : List Addr} {oa : Str → Addr} {P : Pol}

theorem cellE_i {x : Str} {e : Expr} {c : Cell} (h : cellE Φ P nm ρ x e = some c) : (∃ p, e = .List [] p ∧ c = .own []) ∨ ∃ d, ev Φ e nm ρ = some d ∧ c = .val d := by
  rcases ite_i h with ⟨_, h⟩ | ⟨_, h⟩
  · obtain ⟨hn, h'⟩ := ifs h
    obtain ⟨p, rfl⟩ := isNil_i hn
    exact .inl ⟨p, rfl, h'.symm⟩
  · obtain ⟨d, hd, h⟩ := mpd h
    exact .inr ⟨d, hd, h.symm⟩
theorem consC_i {x : Option Cell} {y : Option (List Cell)} {cs : List Cell} (h : consC x y = some cs) : ∃ a r, x = some a ∧ y = some r ∧ a :: r = cs := by
  cases x <;> first | exact no h | (cases y <;> first | exact no h | exact ⟨_, _, rfl, rfl, some_i h⟩)

/-- what the items of a tuple display give -/
noncomputable abbrev CellsOk (prog : Program) (w : World) (A : Around) (s : Shared) (Z : List Addr) (t : Sem (List Value)) (cs : List Cell) : Prop :=
  ∀ E, wpAny (model prog w) A t (fun vs s' => Kp s s' ∧ ∃ as, (∀ a ∈ as, s.heap.get? a = none ∧ ∃ o, s'.heap.get? a = some o) ∧ CellsAre (as ++ Z) s'.heap vs cs as) E s
theorem evC_ok (G : Glo h₀ mg mb) (Fs : FnsOk prog w h₀ mg lvl Φ) : ∀ (xs : List Str) (es : List Expr) {cs : List Cell}, evC Φ P xs es nm ρ = some cs → ∀ {A : Around} {s : Shared} {Z : List Addr}, Room A lvl → 0 ≤ s.toks → EnvOk h₀ Z s.heap env nm ρ →
    ∀ pos, CellsOk prog w A s Z (spliced (backTo pos (starEach es env))) cs := by
  intro xs
  induction xs with
  | nil =>
    intro es cs h A s Z rm ht k pos E
    cases es with
    | cons => exact no h
    | nil =>
      cases some_i h
      exact Calls.spliced_nil ⟨.refl _, [], (fun _ h => nomatch h), .nil⟩
  | cons x xs ih' =>
    intro es cs h A s Z rm ht k pos E
    cases es with
    | nil => exact no h
    | cons e es =>
      obtain ⟨c, cs', hc, hcs, rfl⟩ := consC_i h
      have ih := fun {A s Z} => ih' es hcs (A := A) (s := s) (Z := Z)
      rcases cellE_i hc with ⟨lp, rfl, rfl⟩ | ⟨d, hd, rfl⟩
      · refine spliced_more ?_ rfl
        refine List_ (Calls.spliced_nil (wpAny_newObj_type ?_ (by size_fits)))
        have hk : Ext s.heap (s.heap.push { cls := .type "list", data := .seq ([] : List Value).toArray }) := Ext.push _ _
        have hno : s.heap.get? s.heap.objs.size = none := get_none_of_ext (.refl _)
        have hyes : (s.heap.push { cls := .type "list", data := .seq ([] : List Value).toArray }).get? s.heap.objs.size = some { cls := .type "list", data := .seq ([] : List Value).toArray } := Heap.get?_push_size _ rfl
        have k1 : EnvOk h₀ ([s.heap.objs.size] ++ Z) (s.heap.push { cls := .type "list", data := .seq ([] : List Value).toArray }) env nm ρ :=
          k.widen hk (fun b hb => by rw [List.mem_singleton] at hb; subst hb; exact hno) (fun b hb => by rw [List.mem_singleton] at hb; subst hb; exact ⟨_, hyes⟩)
        refine wpAny_mono (ih (s := { s with heap := s.heap.push { cls := .type "list", data := .seq ([] : List Value).toArray } }) rm ht k1 pos E) (fun vs s₂ h₂ => ?_) fun _ _ x => x
        obtain ⟨k₂, as, has, hcells⟩ := h₂
        have hk2 : Kp s s₂ := Kp.trans ⟨_, _, rfl, hk⟩ k₂
        have hna : s.heap.objs.size ∉ as := fun hm => by
          have := (has _ hm).1
          rw [hyes] at this; cases this
        refine ⟨hk2, s.heap.objs.size :: as, fun a ha => ?_, .own ⟨0, k₂.ext _ _ hyes⟩ .nil hna (hcells.sub fun b hb => ?_)⟩
        · rcases List.mem_cons.mp ha with rfl | ha
          · exact ⟨hno, _, k₂.ext _ _ hyes⟩
          · exact ⟨none_of_ext hk (has a ha).1, (has a ha).2⟩
        · rcases List.mem_append.mp hb with h | h
          · rcases List.mem_cons.mp h with h | h
            · exact List.mem_append_right _ (List.mem_append_left _ (List.mem_singleton.mpr h))
            · exact List.mem_append_left _ h
          · exact List.mem_append_right _ (List.mem_append_right _ h)
      · refine spliced_more (then_ ht (ev_ok G Fs e hd rm ht k) fun v s₁ k₁ t₁ r₁ => ?_) (star_e hd _ _)
        refine wpAny_mono (ih rm t₁ (k.ext k₁.ext) pos E) (fun vs s₂ h₂ => ?_) fun _ _ x => x
        obtain ⟨k₂, as, has, hcells⟩ := h₂
        exact ⟨k₁.trans k₂, as, fun a ha => ⟨none_of_ext k₁.ext (has a ha).1, (has a ha).2⟩, .val (rep_widen k₂.ext (fun b hb => (has b hb).1) r₁) hcells⟩

noncomputable def StoreAs (env : Env) (f : Value → Sem Unit) (x : Str) : Prop :=
  ∀ {M : Model} {A : Around} {v : Value} {Q : Unit → Shared → Prop} {E : Value → Shared → Prop} {s : Shared}, wpAny M A (storeName env x v) Q E s → wpAny M A (f v) Q E s

inductive StoresFor (env : Env) : List (Value → Sem Unit) → List Str → Prop
  | nil : StoresFor env [] []
  | cons {f : Value → Sem Unit} {x : Str} {fs : List (Value → Sem Unit)} {xs : List Str} : StoreAs env f x → StoresFor env fs xs → StoresFor env (f :: fs) (x :: xs)

theorem Stored.cells {h h' : Heap} {x : Str} {v : Value} {a : Addr} (S : Stored env x v a h h') (F : Fm h₀ g Z env Y oa h ρ) {vs : List Value} {cs : List Cell} {as : List Addr} (c : CellsAre (Y ++ Z) h vs cs as) : CellsAre (Y ++ Z) h' vs cs as := by
  induction c with
  | nil => exact .nil
  | val r _ ih => exact .val (S.rep F r) ih
  | own hp ra hn _ ih => exact .own (S.plain F hp) (S.repAll F ra) hn ih

theorem storeAll : ∀ {xs : List Str} {fs : List (Value → Sem Unit)} {vs : List Value} {cs : List Cell} {as : List Addr} {s : Shared} {ρ ρ' : Rho} {oa : Str → Addr}, StoresFor env fs xs → xs.all (stOk env.scope.names) = true →
    CellsAre (Y ++ Z) s.heap vs cs as → (∀ a ∈ as, a ∈ Y) → (∀ a ∈ as, ∀ y es, ρ.lookup y = some (.own es) → oa y ≠ a) → puts ρ xs cs = some ρ' → 0 ≤ s.toks → Fm h₀ g Z env Y oa s.heap ρ →
    ∀ E, wpAny (model prog w) A (assignInOrder fs vs) (fun _ s' => Step Y s Y s' ∧ ∃ oa', Fm h₀ g Z env Y oa' s'.heap ρ') E s := by
  intro xs
  induction xs with
  | nil =>
    intro fs vs cs as s ρ ρ' oa hsf hst hc hasY hno hp ht F E
    cases hsf
    cases hc with
    | nil =>
      cases some_i hp
      exact assignInOrder_nil ⟨.refl ht, oa, F⟩
    | val => exact no hp
    | own => exact no hp
  | cons x xs ih =>
    intro fs vs cs as s ρ ρ' oa hsf hst hc hasY hno hp ht F E
    cases hsf with
    | cons hf hfs =>
    rw [List.all_cons, Bool.and_eq_true] at hst
    cases hc with
    | nil => exact no hp
    | val r hc =>
      refine assignInOrder_cons (hf (store_raw F hst.1 fun a h' t htk S => ?_))
      obtain ⟨oa', F', hoa, _⟩ := F.stored S hst.1 (c := .val _) (S.rep F r)
      have st := S.step F (t := t) (Nat.le_trans ht htk)
      refine wpAny_mono (ih (s := { s with heap := h', toks := t }) hfs hst.2 (S.cells F hc) hasY (fun a ha y es hy => ?_) hp (Nat.le_trans ht htk) F' E) (fun _ s' h => ⟨st.trans h.1, h.2⟩) fun _ _ x => x
      rw [lookup_put] at hy
      by_cases e : y = x
      · subst e; simp at hy
      · rw [if_neg e] at hy
        rw [hoa y e]
        exact hno a ha y es hy
    | own hpl ra hna hc =>
      rename_i a₀ us ds vs cs as
      refine assignInOrder_cons (hf (store_raw F hst.1 fun a h' t htk S => ?_))
      obtain ⟨oa', F', hoa, hox⟩ := F.stored S hst.1 (c := .own ds) ⟨a₀, us, rfl, hasY _ (.head _), S.plain F hpl, S.repAll F ra, by
        rintro ⟨y, es, _, hy, e⟩
        exact hno a₀ (.head _) y es hy e⟩
      have hax : a₀ = oa' x := by
        have := hox ds rfl
        cases this; rfl
      have st := S.step F (t := t) (Nat.le_trans ht htk)
      refine wpAny_mono (ih (s := { s with heap := h', toks := t }) hfs hst.2 (S.cells F hc) (fun a ha => hasY a (.tail _ ha)) (fun a ha y es hy => ?_) hp (Nat.le_trans ht htk) F' E) (fun _ s' h => ⟨st.trans h.1, h.2⟩) fun _ _ x => x
      by_cases e : y = x
      · subst e
        rw [← hax]
        rintro rfl
        exact hna ha
      · rw [lookup_put, if_neg e] at hy
        rw [hoa y e]
        exact hno a (.tail _ ha) y es hy

noncomputable abbrev Ex (prog : Program) (w : World) (A : Around) (h₀ g : Heap) (Z : List Addr) (env : Env) (s : Shared) (Y : List Addr) (t : Sem Flow) (fl : Fl) (ρ' : Rho) : Prop :=
  ∀ E, wpAny (model prog w) A t (fun f s' => Done h₀ g Z env s Y f fl ρ' s') E s

theorem namesOf_i {e : Expr} {r : List Expr} {xs : List Str} (h : namesOf (e :: r) = some xs) : ∃ x p ys, e = .Name x p ∧ namesOf r = some ys ∧ x :: ys = xs := by
  obtain ⟨x, hx, h⟩ := bnd h
  obtain ⟨ys, hy, h'⟩ := mpd h
  obtain ⟨p, rfl⟩ := nameOf_i hx
  exact ⟨x, p, ys, rfl, hy, h'⟩
theorem namesOf_map {ts : List Expr} : ∀ {xs : List Str}, namesOf ts = some xs → ts.length = xs.length ∧ ∃ ps : List Pos, assignEach ts env = (xs.zip ps).map (fun y => (false, assign (.Name y.1 y.2) env)) ∧ ps.length = xs.length := by
  induction ts with
  | nil => intro xs h; cases some_i h; exact ⟨rfl, [], rfl, rfl⟩
  | cons e r ih =>
    intro xs h
    obtain ⟨x, p, ys, rfl, hy, rfl⟩ := namesOf_i h
    obtain ⟨h1, ps, h2, h3⟩ := ih hy
    refine ⟨congrArg (· + 1) h1, p :: ps, ?_, congrArg (· + 1) h3⟩
    rw [List.zip_cons_cons, List.map_cons, ← h2]
    rfl

theorem stores_assign (xs : List Str) : ∀ (ps : List Pos), ps.length = xs.length → StoresFor env (((xs.zip ps).map (fun y => (false, assign (.Name y.1 y.2) env))).map (·.2)) xs := by
  induction xs with
  | nil => intro ps h; cases ps with
    | nil => exact .nil
    | cons => cases h
  | cons x xs ih => intro ps h; cases ps with
    | nil => cases h
    | cons p ps => exact .cons (fun hq => PyProof.Rows.assign_Name hq) (ih ps (Nat.succ.inj h))
theorem stores_bind : ∀ (xs : List Str), StoresFor env (xs.map fun n => bindName env n) xs
  | [] => .nil
  | x :: xs => .cons (fun hq => wpAny_bindName hq) (stores_bind xs)

theorem no_star (l : List (Str × Pos)) : (l.map (fun y => ((false, assign (.Name y.1 y.2) env) : Bool × (Value → Sem Unit)))).findIdx? (·.1) = none := by
  rw [List.findIdx?_eq_none_iff]
  intro x hx
  obtain ⟨y, _, rfl⟩ := List.mem_map.mp hx
  rfl

theorem ext_of_extBut {h h' : Heap} (e : Heap.ExtBut h.objs.size h h') : Ext h h' := fun b o ho => e b o (Nat.ne_of_lt (Heap.lt_size ho)) ho

/-- the tuple is there: it is taken apart -/
theorem tuple_stores {ts : List Expr} {xs : List Str} {k : Nat} {tpos : Pos} {t : Addr} {vs : List Value} {cs : List Cell} {as : List Addr} {ρ' : Rho} (hh : A.handled = none) (hts : namesOf ts = some xs) (hst : xs.all (stOk env.scope.names) = true)
    (ht : 0 ≤ s.toks) (htp : s.heap.IsTuple t vs.toArray) (hc : CellsAre (Y ++ Z) s.heap vs cs as) (hasY : ∀ a ∈ as, a ∈ Y) (hno : ∀ a ∈ as, ∀ y es, ρ.lookup y = some (.own es) → oa y ≠ a) (hp : puts ρ xs cs = some ρ') (F : Fm h₀ g Z env Y oa s.heap ρ) :
    ∀ E, wpAny (model prog w) A (assign (.Tuple ts k tpos) env (.ref t)) (fun _ s' => Step Y s Y s' ∧ ∃ oa', Fm h₀ g Z env Y oa' s'.heap ρ') E s := by
  intro E
  obtain ⟨hl, ps, he, hps⟩ := namesOf_map (env := env) hts
  have hlen : (assignEach ts env).length = vs.toArray.size := by
    rw [he, List.length_map, List.length_zip, hps, List.size_toArray, hc.length, puts_length hp]
    omega
  refine assign_Tuple_tuple hh htp hlen (by rw [he]; exact no_star _) fun h' e => ?_
  have ex := ext_of_extBut e
  have kp : Kp s { s with heap := h' } := ⟨h', s.toks, rfl, ex⟩
  refine wpAny_mono (storeAll (s := { s with heap := h' }) (fs := (assignEach ts env).map (·.2)) (by rw [he]; exact stores_assign xs ps hps) hst (hc.ext ex) hasY hno hp ht (F.ext ex) E) (fun _ s' h => ⟨(Step.kp kp ht).trans h.1, h.2⟩) fun _ _ x => x

theorem tuple_swapped {xs : List Str} {t : Addr} {vs : List Value} {cs : List Cell} {as : List Addr} {ρ' : Rho} (hh : A.handled = none) (hst : xs.all (stOk env.scope.names) = true) (hnd : xs.Nodup)
    (ht : 0 ≤ s.toks) (htp : s.heap.IsTuple t vs.toArray) (hc : CellsAre (Y ++ Z) s.heap vs cs as) (hasY : ∀ a ∈ as, a ∈ Y) (hno : ∀ a ∈ as, ∀ y es, ρ.lookup y = some (.own es) → oa y ≠ a) (hp : puts ρ xs cs = some ρ') (F : Fm h₀ g Z env Y oa s.heap ρ) :
    ∀ E, wpAny (model prog w) A (unpackItems (.ref t) xs.length none) (fun items s₂ => wpAny (model prog w) A (assignInOrder (xs.reverse.map fun n => bindName env n) items.reverse) (fun _ s' => Step Y s Y s' ∧ ∃ oa', Fm h₀ g Z env Y oa' s'.heap ρ') E s₂) E s := by
  intro E
  have hlen : xs.length = vs.toArray.size := by rw [List.size_toArray, hc.length, puts_length hp]
  rw [hlen]
  refine wpAny_unpackItems_tuple hh htp fun h' e => ?_
  have ex := ext_of_extBut e
  have kp : Kp s { s with heap := h' } := ⟨h', s.toks, rfl, ex⟩
  obtain ⟨ρ'', hp'', hlk⟩ := puts_reverse hp hnd
  have hst' : xs.reverse.all (stOk env.scope.names) = true := by rw [List.all_reverse]; exact hst
  refine wpAny_mono (storeAll (s := { s with heap := h' }) (stores_bind xs.reverse) hst' (hc.ext ex).reverse (fun a ha => hasY a (List.mem_reverse.mp ha)) (fun a ha => hno a (List.mem_reverse.mp ha)) hp'' ht (F.ext ex) E) (fun _ s' h => ⟨(Step.kp kp ht).trans h.1, ?_⟩) fun _ _ x => x
  obtain ⟨oa', F'⟩ := h.2
  exact ⟨oa', F'.congr hlk⟩
end
end Mine
end
section
open PySem PyProof.Rows
set_option maxRecDepth 100000
set_option Elab.async false
set_option maxHeartbeats 4000000
namespace Mine
section
variable {prog : Program} {w : World} {A : Around} {E : Value → Shared → Prop} {s : Shared} {Z : List Addr} {h₀ g : Heap} {env : Env} {nm : Names} {ρ ρ' : Rho} {mg mb : Str → Option Value} {lvl : Nat} {Φ : Fns} {Y : List Addr} {oa : Str → Addr} {P : Pol} {fl : Fl}

theorem Ex.pre {Y1 : List Addr} {t : Sem Flow} (st : Step Y s Y1 s) (h : Ex prog w A h₀ g Z env s Y1 t fl ρ') : Ex prog w A h₀ g Z env s Y t fl ρ' := fun E =>
  wpAny_mono (h E) (fun _ _ ⟨Y', oa', st', F, hf⟩ => ⟨Y', oa', st.trans st', F, hf⟩) fun _ _ x => x

theorem ev_f (G : Glo h₀ mg mb) (Fs : FnsOk prog w h₀ mg lvl Φ) {e : Expr} {d : D} (h : ev Φ e env.scope.names ρ = some d) (rm : Room A lvl) (ht : 0 ≤ s.toks) (F : Fm h₀ g Z env Y oa s.heap ρ) {Q : Value → Shared → Prop}
    (k : ∀ v s', Kp s s' → 0 ≤ s'.toks → Rep (Y ++ Z) s'.heap v d → Fm h₀ g Z env Y oa s'.heap ρ → Q v s') : wpAny (model prog w) A (eval e env) Q E s :=
  then_ ht (ev_ok G Fs e h rm ht F.env_) fun v s' kp t r => k v s' kp t r (F.ext kp.ext)
theorem evT_f (G : Glo h₀ mg mb) (Fs : FnsOk prog w h₀ mg lvl Φ) {e : Expr} {b : Bool} (h : evT Φ e env.scope.names ρ = some b) (rm : Room A lvl) (ht : 0 ≤ s.toks) (F : Fm h₀ g Z env Y oa s.heap ρ) {Q : Bool → Shared → Prop}
    (k : ∀ s', Kp s s' → 0 ≤ s'.toks → Fm h₀ g Z env Y oa s'.heap ρ → Q b s') : wpAny (model prog w) A (isTrue e env (eval e env)) Q E s :=
  then_ ht (evT_ok G Fs e h rm ht F.env_) fun v s' kp t r => by subst r; exact k s' kp t (F.ext kp.ext)

theorem ret_ok (G : Glo h₀ mg mb) (Fs : FnsOk prog w h₀ mg lvl Φ) {e : Expr} {d : D} {pos : Pos} (h : ev Φ e env.scope.names ρ = some d) (rm : Room A lvl) (ht : 0 ≤ s.toks) (F : Fm h₀ g Z env Y oa s.heap ρ) :
    Ex prog w A h₀ g Z env s Y (exec (.Return (some e) pos) env) (.ret d) ρ := fun E =>
  wpAny_Return_some (ev_f G Fs h rm ht F fun v s' kp t r F' => ⟨Y, oa, .kp kp t, F', r⟩)

theorem swaps_ok {e : Expr} {d : D} {t : Option Expr} {line : Nat} (h : ev Φ e nm ρ = some d) (hn : ∀ elt gens scope pos, e ≠ .ListComp elt gens scope pos) : swapsWith e t line env = pure false := by
  cases e <;> first | rfl | exact no h | exact absurd rfl (hn _ _ _ _)

theorem asg_plain (G : Glo h₀ mg mb) (Fs : FnsOk prog w h₀ mg lvl Φ) {e : Expr} {d : D} {x : Str} {xp pos : Pos} (hs : swapsWith e (some (.Name x xp)) pos.line env = pure false) (hx : stOk env.scope.names x = true) (h : ev Φ e env.scope.names ρ = some d) (rm : Room A lvl) (ht : 0 ≤ s.toks) (F : Fm h₀ g Z env Y oa s.heap ρ) :
    Ex prog w A h₀ g Z env s Y (exec (.Assign [.Name x xp] e pos) env) .next (put ρ x (.val d)) := fun E =>
  wpAny_Assign_Name (ev_f G Fs h rm ht F fun v s' kp t r F' => store_raw F' hx fun a h' t' htk S => by
    obtain ⟨oa', F2, _⟩ := F'.stored S hx (c := .val d) (S.rep F' r)
    exact ⟨Y, oa', (Step.kp kp t).trans (S.step F' (Nat.le_trans t htk)), F2, trivial⟩) hs

theorem asg_comp (G : Glo h₀ mg mb) (Fs : FnsOk prog w h₀ mg lvl Φ) {elt iter : Expr} {ifs : List Expr} {scope : Scope} {d : D} {x y : Str} {py px pos spos : Pos} {asy : Int}
    (hs : swapsWith (.ListComp elt [⟨.Name x px, iter, ifs, asy⟩] scope pos) (some (.Name y py)) spos.line env = pure true) (hl : env.kindOf y = some .local) (hx : stOk env.scope.names y = true)
    (h : ev Φ (.ListComp elt [⟨.Name x px, iter, ifs, asy⟩] scope pos) env.scope.names ρ = some d) (rm : Room A lvl) (ht : 0 ≤ s.toks) (F : Fm h₀ g Z env Y oa s.heap ρ) :
    Ex prog w A h₀ g Z env s Y (exec (.Assign [.Name y py] (.ListComp elt [⟨.Name x px, iter, ifs, asy⟩] scope pos) spos) env) .next (put ρ y (.val d)) := by
  intro E
  obtain ⟨x', px', src, out, e1, rfl, hsrc, hc1, hc2, hc3, ho, rfl⟩ := comp_i h
  cases e1
  have main : wpAny (model prog w) A (exec (.Assign [.Name y py] (.ListComp elt [⟨.Name x px, iter, ifs, 0⟩] scope pos) spos) env)
      (fun f s' => 0 ≤ s'.toks → Done h₀ g Z env s Y f .next (put ρ y (.val (.list out))) s') E s := by
    have k := F.env_
    obtain ⟨hk, hcell, hnames, hfree, hxl⟩ := compOk_parts hc3
    obtain ⟨cl, hclos, hcl⟩ := closureFor_ok env (scope := scope) fun y hy e => (k.ce _ (hfree y hy e)).2
    obtain ⟨m, hm⟩ := F.ns
    refine wpAny_Assign_ListComp_free (fun v => evA Φ ifs scope.names ((x, .val (immOf v)) :: inner scope.names env.scope.names ρ) == some true) (fun v z => ∃ r, ev Φ elt scope.names ((x, .val (immOf v)) :: inner scope.names env.scope.names ρ) = some r ∧ r.imm = true ∧ Rep [] {} z r)
      hs hclos hcell hk hnames hxl hl (by rw [F.sta.kind]; rfl) ?_ (fset_ok hsrc env)
    refine wpAny_mono (comp_core ht k hc3 hcl (evI_ok G Fs iter hsrc rm ht k) hc2 ho
        (fun d b hb s' cenv ki t' => evAt_ok G Fs ifs hb rm t' ki)
        (fun d r hr s' cenv ki t' => ev_ok G Fs elt hr rm t' ki) (E := E)
        (QQ := fun I fp wr P St s₂ => Walks prog w A I fp wr src.length P St ∧ St 0 s₂.heap ∧ (∀ b ∈ fp, b < s₂.heap.objs.size) ∧ env.locals ∉ wr ∧ s₂.heap.Ns env.locals m ∧
          QuietOnC prog w A env scope cl x ifs elt wr P (fun v => evA Φ ifs scope.names ((x, .val (immOf v)) :: inner scope.names env.scope.names ρ) == some true) (fun v z => ∃ r, ev Φ elt scope.names ((x, .val (immOf v)) :: inner scope.names env.scope.names ρ) = some r ∧ r.imm = true ∧ Rep [] {} z r) s₂ ∧
          (∀ D h' tk ys (vs : List Value), s₂.heap.get? D = none → h'.IsList D ys → h'.PlainList D ys → vs.length = src.length → (∀ j v, vs[j]? = some v → P j v) →
            Paired (fun v z => ∃ r, ev Φ elt scope.names ((x, .val (immOf v)) :: inner scope.names env.scope.names ρ) = some r ∧ r.imm = true ∧ Rep [] {} z r) (vs.filter (fun v => evA Φ ifs scope.names ((x, .val (immOf v)) :: inner scope.names env.scope.names ρ) == some true)) ys.toList →
            h'.Ns env.locals (fun z => if z = y then some (.ref D) else m z) → (∀ b o, b ≠ env.locals → b ∉ wr → s₂.heap.get? b = some o → h'.get? b = some o) →
            0 ≤ ({ s₂ with heap := h', toks := tk } : Shared).toks → Done h₀ g Z env s Y .next .next (put ρ y (.val (.list out))) { s₂ with heap := h', toks := tk })) ?_)
      (fun _ _ h => wpAny_mono h (fun _ _ h => ?_) fun _ _ y => y) fun _ _ y => y
    · intro I fp wr P St s₂ W hst hfp hwr kp _ hq hout
      have hlw : env.locals ∉ wr := fun hm' => by
        obtain ⟨_, o, es, ep, ho, _⟩ := F.ns
        rw [hwr _ hm'] at ho; cases ho
      refine ⟨W, hst, hfp, hlw, hm.keeps kp.ext, hq, fun D h' tk ys vs hD hl' _ hlen hPj hpair hns' hk' htk => ?_⟩
      have sm : ∀ b o, b ≠ env.locals → s.heap.get? b = some o → h'.get? b = some o := fun b o hb e => hk' b o hb (fun hm' => by rw [hwr b hm'] at e; cases e) (kp.ext b o e)
      have S : Stored env y (.ref D) env.locals s.heap h' := stored_local F hl hm hns' sm
      have hDZ : D ∉ Y ++ Z := fun hm' => by
        obtain ⟨o, ho⟩ := F.zin D hm'
        rw [kp.ext _ _ ho] at hD
        cases hD
      have r : Rep (Y ++ Z) h' (.ref D) (.list out) := .list hDZ (vs := ys.toList) (by simpa using hl') (hout vs ys h' hlen hPj hpair)
      obtain ⟨oa', F2, _⟩ := F.stored S hx (c := .val (.list out)) r
      have st : Step Y s Y { s₂ with heap := h', toks := tk } := by
        obtain ⟨h2, t2, rfl, _⟩ := kp
        exact S.step F htk
      exact ⟨Y, oa', st, F2, trivial⟩
    · obtain ⟨I, fp, wr, P, St, hI, W, hst, hfp, hlw, hns, hq, hQ⟩ := h
      exact ⟨I, fp, wr, _, P, St, m, hI, W, by rw [← capL]; exact hc1, hst, hfp, hlw, hns, hq, hQ⟩
  exact wpAny_mono (wpAny_toks_of ht main) (fun _ _ x => x.2 x.1) fun _ _ x => x.2

theorem asg_ok (G : Glo h₀ mg mb) (Fs : FnsOk prog w h₀ mg lvl Φ) {e : Expr} {d : D} {x : Str} {xp pos : Pos} (hx : stOk env.scope.names x = true) (h : ev Φ e env.scope.names ρ = some d) (rm : Room A lvl) (ht : 0 ≤ s.toks) (F : Fm h₀ g Z env Y oa s.heap ρ) :
    Ex prog w A h₀ g Z env s Y (exec (.Assign [.Name x xp] e pos) env) .next (put ρ x (.val d)) := by
  by_cases hc : ∃ elt gens scope p, e = .ListComp elt gens scope p
  · obtain ⟨elt, gens, scope, p, rfl⟩ := hc
    cases hb : (env.blockKind == .function && env.kindOf x == some .local && xp.line == p.line && !(scope.names.any fun (n, k) => n == x && (k == .local || k == .cell))) with
    | false =>
      refine asg_plain G Fs ?_ hx h rm ht F
      show (pure (env.blockKind == .function && env.kindOf x == some .local && xp.line == p.line && !(scope.names.any fun (n, k) => n == x && (k == .local || k == .cell))) : Sem Bool) = pure false
      rw [hb]
    | true =>
      have hs : swapsWith (.ListComp elt gens scope p) (some (.Name x xp)) pos.line env = pure true := by
        show (pure (env.blockKind == .function && env.kindOf x == some .local && xp.line == p.line && !(scope.names.any fun (n, k) => n == x && (k == .local || k == .cell))) : Sem Bool) = pure true
        rw [hb]
      have hl : env.kindOf x = some .local := by
        simp only [Bool.and_eq_true, beq_iff_eq] at hb
        exact hb.1.1.2
      rcases gens with _ | ⟨⟨tg, iter, ifs, asy⟩, _ | ⟨_, _⟩⟩
      · exact no h
      · obtain ⟨x', px', src, out, rfl, _⟩ := comp_i h
        exact asg_comp G Fs hs hl hx h rm ht F
      · exact no h
  · exact asg_plain G Fs (swaps_ok h fun elt gens scope p e => hc ⟨elt, gens, scope, p, e⟩) hx h rm ht F

theorem aug_ok (G : Glo h₀ mg mb) (Fs : FnsOk prog w h₀ mg lvl Φ) {e : Expr} {a b : Int} {x : Str} {xp pos : Pos} (hx : stOk env.scope.names x = true) (hv : getV ρ x = some (.int a)) (h : ev Φ e env.scope.names ρ = some (.int b)) (rm : Room A lvl) (ht : 0 ≤ s.toks) (F : Fm h₀ g Z env Y oa s.heap ρ) :
    Ex prog w A h₀ g Z env s Y (exec (.AugAssign (.Name x xp) .Add e pos) env) .next (put ρ x (.val (.int (a + b)))) := by
  intro E
  refine wpAny_AugAssign_Name ?_
  have hx' : ρ.lookup x = some (.val (.int a)) := valO_i hv
  obtain ⟨v, hva, r⟩ := F.val x _ hx'
  cases r with
  | int _ t =>
    have ld : ∀ {Q : Value → Shared → Prop}, Q (.int a t) s → wpAny (model prog w) A (loadName env x) Q E s := fun {Q} hq => by
      rcases hva with ⟨k, m, hn, hv⟩ | ⟨k, c, hc, hv⟩
      · exact wpAny_loadName_local F.sta.kind k hn hv hq
      · exact wpAny_loadName_cell F.sta.kind k hc hv hq
    refine ld (ev_f G Fs h rm ht F fun u s₁ kp t₁ r₁ F₁ => ?_)
    cases r₁ with
    | int _ tb =>
      refine iadd_int ?_
      have kp2 : Kp s₁ { s₁ with toks := s₁.toks + 1 } := .tok
      have F2 := F₁.ext kp2.ext
      refine store_raw (s := { s₁ with toks := s₁.toks + 1 }) F2 hx fun a' h' t' htk S => ?_
      obtain ⟨oa', F3, _⟩ := F2.stored S hx (c := .val (.int (a + b))) (.int _ _)
      have h1 : 0 ≤ s₁.toks + 1 := by omega
      exact ⟨Y, oa', ((Step.kp kp t₁).trans (Step.kp kp2 h1)).trans (S.step F2 (Nat.le_trans h1 htk)), F3, trivial⟩

theorem app_ok (G : Glo h₀ mg mb) (Fs : FnsOk prog w h₀ mg lvl Φ) {e : Expr} {d : D} {x : Str} {xp apos cpos pos : Pos} {ds : List D} (hl : (apos.endLine == cpos.line) = true) (hx : ρ.lookup x = some (.own ds)) (hlen : ds.length ≤ 1000000)
    (h : evs Φ [e] env.scope.names ρ = some [d]) (rm : Room A lvl) (ht : 0 ≤ s.toks) (F : Fm h₀ g Z env Y oa s.heap ρ) :
    Ex prog w A h₀ g Z env s Y (exec (.Expr (.Call (.Attribute (.Name x xp) "append" apos) [e] [] cpos) pos) env) .next (put ρ x (.own (ds ++ [d]))) := by
  intro E
  obtain ⟨hm, hv, vs, hp, ra⟩ := F.own x ds hx
  refine wpAny_Expr ?_ (by unfold interactive; rw [F.sta.kind]; rfl) rfl
  rw [arm_eval_Call, base_ok rfl]
  refine wpAny_bind (eval_name F.sta.kind (F.dbg x _ hx) hv ?_)
  refine wpAny_bind (wpAny_standAt ?_)
  have hplain := (starEach_ok h env cpos).1
  have hform : methodCallForm ([e].length + ([] : List Keyword).length) (backTo cpos (starEach [e] env)) (backToKw cpos (keywordEach [] env)) = true := by
    unfold methodCallForm
    have h1 : (backTo cpos (starEach [e] env)).all (fun x => !x.1) = true := by
      rw [List.all_eq_true]
      intro x hx
      have := List.any_eq_false.mp hplain x hx
      simpa using this
    rw [h1]
    rw [show backToKw cpos (keywordEach [] env) = [] from rfl]; simp
  have hpos : methodCallPos true (.Name x xp) env apos cpos = pure cpos := by unfold methodCallPos; simp [hl]
  unfold methodCall
  rw [hform]
  obtain ⟨n, hp'⟩ := id hp
  refine wpAny_bind (wpAny_holding (getMethod_builtin (id := "list.append") ⟨_, hp', rfl⟩ PySem.F.plainAttrs_list PySem.F.slot_list_append PySem.F.type_list_append (fun a' e => by cases e; exact ⟨_, hp', rfl⟩) ?_))
  refine wpAny_bind (wpAny_of_eq hpos ?_)
  refine callWith_b (.inl ⟨_, rfl⟩) hplain (then_ ht (evs_ok G Fs [e] h rm ht F.env_ cpos) fun us s₁ k₁ t₁ r₁ => ?_)
  cases r₁ with
  | cons r r2 =>
    cases r2
    rename_i v
    have F1 := F.ext k₁.ext
    have hp1 := hp.at fun o ho => k₁.ext _ o ho
    refine wpAny_list_append_plain hp1 (fun h' hp2 hs => ?_) ?_
    · have hall : ∀ y es, ρ.lookup y = some (.own es) → y ≠ x → oa y ≠ oa x := fun y es hy hyx e' => hyx (F.ownap y x es ds hy hx e')
      have sm : ∀ b o, b ≠ oa x → s₁.heap.get? b = some o → h'.get? b = some o := fun b o hb e => (hs.2 b hb).trans e
      have mo : ∀ b o, b ∉ Y ++ Z → s₁.heap.get? b = some o → h'.get? b = some o ∧ b ∉ Y ++ Z := fun b o hb e => ⟨sm b o (fun q => hb (q ▸ List.mem_append_left _ hm)) e, hb⟩
      have va : ∀ {y v}, VarAt s₁.heap env y v → VarAt h' env y v := fun {y v} hv => by
        rcases hv with ⟨k, m, ⟨o, es, ep, ho, q⟩, hv⟩ | ⟨k, c, hc, o, ho, hd⟩
        · exact .inl ⟨k, m, ⟨o, es, ep, sm _ _ (Ne.symm (F.own_ne_loc hx)) ho, q⟩, hv⟩
        · exact .inr ⟨k, c, hc, o, sm _ _ (Ne.symm (F.own_ne_cell hx hc)) ho, hd⟩
      have hpush : (vs.toArray.push v) = (vs ++ [v]).toArray := by simp
      have hdbg := F.dbg x _ hx
      refine ⟨Y, oa, (Step.kp k₁ t₁).trans ⟨⟨h', s₁.toks, rfl⟩, t₁, fun b o hb e => sm b o (fun q => hb (q ▸ hm)) e, fun _ hb => .inl hb⟩, ⟨F.sta, fun b hb => ?_, F.old, fun b o e => sm b o (fun q => ?_) (F1.keep b o e), F.fresh, F.dis, F.loc, ?_, fun n c hc => ⟨(F1.cell n c hc).1, ?_⟩, fun y c hy => ?_, fun y d' hy => ?_, fun y es hy => ?_, fun y z es es' hy hz e' => ?_⟩, trivial⟩
      · by_cases q : b = oa x
        · subst q
          obtain ⟨n, hp2⟩ := hp2
          exact ⟨_, hp2⟩
        · obtain ⟨o, ho⟩ := F1.zin b hb
          exact ⟨o, sm b o q ho⟩
      · subst q
        rw [F.fresh _ hm] at e; cases e
      · obtain ⟨m, o, es, ep, ho, q⟩ := F1.ns
        exact ⟨m, o, es, ep, sm _ _ (Ne.symm (F.own_ne_loc hx)) ho, q⟩
      · obtain ⟨_, v, o, ho, hd⟩ := F1.cell n c hc
        exact ⟨v, o, sm _ _ (Ne.symm (F.own_ne_cell hx hc)) ho, hd⟩
      · rw [lookup_put] at hy
        by_cases e : y = x
        · subst e; exact hdbg
        · rw [if_neg e] at hy; exact F.dbg y c hy
      · rw [lookup_put] at hy
        by_cases e : y = x
        · subst e; simp at hy
        · rw [if_neg e] at hy
          obtain ⟨v, hv, r⟩ := F1.val y d' hy
          exact ⟨v, va hv, r.mono mo⟩
      · rw [lookup_put] at hy
        by_cases e : y = x
        · subst e
          simp only [if_true, Option.some.injEq, Cell.own.injEq] at hy
          subst hy
          refine ⟨hm, va (hv.ext k₁.ext), vs ++ [v], hpush ▸ hp2, ?_⟩
          exact ((ra.ext k₁.ext).mono mo).append (.cons (r.mono mo) .nil)
        · rw [if_neg e] at hy
          obtain ⟨hm', hv', us, ⟨n, hp'⟩, ra'⟩ := F1.own y es hy
          exact ⟨hm', va hv', us, ⟨n, sm _ _ (hall y es hy e) hp'⟩, ra'.mono mo⟩
      · rw [lookup_put] at hy hz
        by_cases e1 : y = x
        · by_cases e2 : z = x
          · rw [e1, e2]
          · subst e1
            rw [if_neg e2] at hz
            exact absurd e'.symm (hall z es' hz e2)
        · by_cases e2 : z = x
          · subst e2
            rw [if_neg e1] at hy
            exact absurd e' (hall y es hy e1)
          · rw [if_neg e1] at hy; rw [if_neg e2] at hz
            exact F.ownap y z es es' hy hz e'
    · show vs.toArray.size ≤ sizeLine
      rw [List.size_toArray, ra.length, ← capL]
      exact Nat.le_trans hlen (by decide)
end
end Mine
end
section
open PySem PyProof.Rows
set_option maxRecDepth 100000
set_option Elab.async false
set_option maxHeartbeats 4000000
namespace Mine
section
variable {prog : Program} {w : World} {A : Around} {E : Value → Shared → Prop} {s : Shared} {Z : List Addr} {h₀ g : Heap} {env : Env} {nm : Names} {ρ ρ' : Rho} {mg mb : Str → Option Value} {lvl : Nat} {Φ : Fns} {Y : List Addr} {oa : Str → Addr} {P : Pol} {fl : Fl}

noncomputable def nmF (env : Env) (line : Nat) : Expr → Option Str
  | .Name id pos => if env.kindOf id == some .local && pos.line == line then some id else none
  | _ => none

theorem names_all {line : Nat} {ts : List Expr} : ∀ {xs : List Str}, namesOf ts = some xs → (ts.filterMap (nmF env line)).length ≤ ts.length ∧ ((ts.filterMap (nmF env line)).length = ts.length → ts.filterMap (nmF env line) = xs) := by
  induction ts with
  | nil => intro xs h; cases some_i h; exact ⟨Nat.le_refl _, fun _ => rfl⟩
  | cons e r ih =>
    intro xs h
    obtain ⟨x, p, ys, rfl, hy, rfl⟩ := namesOf_i h
    obtain ⟨h1, h2⟩ := ih hy
    by_cases hc : (env.kindOf x == some .local && p.line == line) = true
    · rw [List.filterMap_cons_some (show nmF env line (.Name x p) = some x from if_pos hc)]
      exact ⟨Nat.succ_le_succ h1, fun e => by rw [h2 (Nat.succ.inj e)]⟩
    · rw [List.filterMap_cons_none (show nmF env line (.Name x p) = none from if_neg hc)]
      exact ⟨Nat.le_succ_of_le h1, fun e => absurd h1 (by rw [e]; exact Nat.not_succ_le_self _)⟩

theorem swapped_cases {ts es : List Expr} {xs : List Str} {k k' : Nat} {tp p' : Pos} (hts : namesOf ts = some xs) (hne : es.all (constantsAlone 8) = false) :
    swappedStores [.Tuple ts k tp] (.Tuple es k' p') env = pure none ∨ swappedStores [.Tuple ts k tp] (.Tuple es k' p') env = pure (some xs) := by
  have main : swappedStores [.Tuple ts k tp] (.Tuple es k' p') env = (do
      if !(ts.length == 2 || ts.length == 3) || es.length != ts.length || env.blockKind != .function then return none
      if es.any fun | .Starred .. => true | _ => false then return none
      if (ts.filterMap (nmF env ((ts.head?.map (·.pos.line)).getD 0))).length != ts.length || (ts.filterMap (nmF env ((ts.head?.map (·.pos.line)).getD 0))).eraseDups.length != (ts.filterMap (nmF env ((ts.head?.map (·.pos.line)).getD 0))).length then return none
      if es.all (foldedForSure 8) then return none
      if es.all (constantsAlone 8) then unsupported "assign.tuple-of-constant-expressions:order-of-the-stores"
      return some (ts.filterMap (nmF env ((ts.head?.map (·.pos.line)).getD 0)))) := rfl
  rw [main]
  generalize hn : ts.filterMap (nmF env ((ts.head?.map (·.pos.line)).getD 0)) = ns
  split
  · exact .inl rfl
  split
  · exact .inl rfl
  split
  · exact .inl rfl
  rename_i h3
  split
  · exact .inl rfl
  rw [hne]
  right
  have hl : ns.length = ts.length := by
    simp only [Bool.or_eq_true, bne_iff_ne, ne_eq, not_or, Decidable.not_not] at h3
    exact h3.1
  have := (names_all (env := env) (line := (ts.head?.map (·.pos.line)).getD 0) hts).2 (by rw [hn]; exact hl)
  rw [hn] at this
  subst this
  rfl

theorem tup_disp (G : Glo h₀ mg mb) (Fs : FnsOk prog w h₀ mg lvl Φ) {ts es : List Expr} {xs : List Str} {k k' : Nat} {tp p' pos : Pos} {cs : List Cell} (hts : namesOf ts = some xs) (hst : xs.all (stOk env.scope.names) = true) (hnd : xs.Nodup) (hlen : xs.length ≤ 8)
    (hne : es.all (constantsAlone 8) = false) (h : evC Φ P xs es env.scope.names ρ = some cs) (hp : puts ρ xs cs = some ρ') (rm : Room A lvl) (ht : 0 ≤ s.toks) (F : Fm h₀ g Z env Y oa s.heap ρ) :
    Ex prog w A h₀ g Z env s Y (exec (.Assign [.Tuple ts k tp] (.Tuple es k' p') pos) env) .next ρ' := by
  intro E
  have hs : swapsWithSole [.Tuple ts k tp] (.Tuple es k' p') pos.line env = pure false := rfl
  have hval : ∀ {Q : Value → Shared → Prop}, (∀ t vs as s', Kp s s' → 0 ≤ s'.toks → s'.heap.IsTuple t vs.toArray → CellsAre ((as ++ Y) ++ Z) s'.heap vs cs as → (∀ a ∈ as, ∀ y es, ρ.lookup y = some (.own es) → oa y ≠ a) → Step Y s (as ++ Y) s' →
      Fm h₀ g Z env (as ++ Y) oa s'.heap ρ → Q (.ref t) s') → wpAny (model prog w) A (eval (.Tuple es k' p') env) Q E s := by
    intro Q hQ
    refine Tuple_ (wpAny_mono (wpAny_toks_of ht (evC_ok G Fs xs es h rm ht F.env_ p' E)) (fun vs s₁ h₁ => ?_) fun _ _ x => x.2)
    obtain ⟨t₁, kp, as, has, hc⟩ := h₁
    have hvl : vs.length ≤ 8 := by rw [hc.length, ← puts_length hp]; exact hlen
    refine wpAny_newObj_type ?_ (by show vs.toArray.size ≤ sizeLine; rw [List.size_toArray]; exact Nat.le_trans hvl (by decide))
    have kp2 : Kp s₁ { s₁ with heap := s₁.heap.push { cls := .type "tuple", data := .seq vs.toArray } } := ⟨_, _, rfl, Ext.push _ _⟩
    have kp3 := kp.trans kp2
    have hw : ∀ b ∈ as, s.heap.get? b = none := fun b hb => (has b hb).1
    have F' := F.widenY kp3.ext hw fun b hb => by
      obtain ⟨o, ho⟩ := (has b hb).2
      exact ⟨o, kp2.ext _ _ ho⟩
    refine hQ _ vs as _ kp3 t₁ ⟨_, Heap.get?_push_size _ rfl, rfl, _, rfl⟩ (by rw [List.append_assoc]; exact hc.ext kp2.ext) (fun a ha y es hy e => ?_) ⟨?_, t₁, fun b o _ e => kp3.ext b o e, fun b hb => ?_⟩ F'
    · obtain ⟨_, _, us, ⟨n, hpl⟩, _⟩ := F.own y es hy
      rw [e, hw a ha] at hpl; cases hpl
    · obtain ⟨h', t', e, _⟩ := kp3
      exact ⟨h', t', e⟩
    · rcases List.mem_append.mp hb with hb | hb
      · exact .inr (hw b hb)
      · exact .inl hb
  rcases swapped_cases (env := env) (k := k) (k' := k') (tp := tp) (p' := p') hts hne with hw | hw
  · refine Assign_Tuple (hval fun t vs as s' kp t' htp hc hno st F' => ?_) hs hw
    refine wpAny_mono (tuple_stores rm.1 hts hst t' htp hc (fun a ha => List.mem_append_left _ ha) hno hp F' E) (fun _ s₂ h₂ => ?_) fun _ _ x => x
    obtain ⟨oa', F2⟩ := h₂.2
    exact ⟨as ++ Y, oa', st.trans h₂.1, F2, trivial⟩
  · refine Assign_Tuple_swapped (hval fun t vs as s' kp t' htp hc hno st F' => ?_) hs hw
    refine wpAny_mono (tuple_swapped rm.1 hst hnd t' htp hc (fun a ha => List.mem_append_left _ ha) hno hp F' E) (fun items s₂ h₂ => wpAny_mono h₂ (fun _ s₃ h₃ => ?_) fun _ _ x => x) fun _ _ x => x
    obtain ⟨oa', F2⟩ := h₃.2
    exact ⟨as ++ Y, oa', st.trans h₃.1, F2, trivial⟩

theorem tup_val (G : Glo h₀ mg mb) (Fs : FnsOk prog w h₀ mg lvl Φ) {ts : List Expr} {e : Expr} {xs : List Str} {k : Nat} {tp pos : Pos} {ds : List D} (hts : namesOf ts = some xs) (hst : xs.all (stOk env.scope.names) = true)
    (hne : ∀ es k' p', e ≠ .Tuple es k' p') (h : ev Φ e env.scope.names ρ = some (.tuple ds)) (hp : puts ρ xs (ds.map .val) = some ρ') (rm : Room A lvl) (ht : 0 ≤ s.toks) (F : Fm h₀ g Z env Y oa s.heap ρ) :
    Ex prog w A h₀ g Z env s Y (exec (.Assign [.Tuple ts k tp] e pos) env) .next ρ' := by
  intro E
  have hs : swapsWithSole [.Tuple ts k tp] e pos.line env = pure false := by
    show swapsWith e (some (.Tuple ts k tp)) pos.line env = pure false
    by_cases hl : ∃ elt gens sc p, e = .ListComp elt gens sc p
    · obtain ⟨elt, gens, sc, p, rfl⟩ := hl
      rcases gens with _ | ⟨⟨tg, iter, ifs, asy⟩, _ | ⟨_, _⟩⟩
      · exact no h
      · obtain ⟨_, _, _, _, _, _, _, _, _, _, _, h⟩ := comp_i h
        cases h
      · exact no h
    · exact swaps_ok h fun elt gens sc p e => hl ⟨elt, gens, sc, p, e⟩
  have hw : swappedStores [.Tuple ts k tp] e env = pure none := by
    cases e <;> first | rfl | exact absurd rfl (hne _ _ _)
  refine Assign_Tuple (ev_f G Fs h rm ht F fun v s' kp t' r F' => ?_) hs hw
  cases r with
  | tuple hz htp ra =>
    refine wpAny_mono (tuple_stores rm.1 hts hst t' htp (CellsAre.ofRep ra) (fun a ha => nomatch ha) (fun a ha => nomatch ha) hp F' E) (fun _ s₂ h₂ => ?_) fun _ _ x => x
    obtain ⟨oa', F2⟩ := h₂.2
    exact ⟨Y, oa', (Step.kp kp t').trans h₂.1, F2, trivial⟩

/-- what a block does -/
noncomputable def BodyOk (prog : Program) (w : World) (lvl : Nat) (h₀ g : Heap) (env : Env) (b : List Stmt) (ρ : Rho) (fl : Fl) (ρ' : Rho) : Prop :=
  ∀ {A : Around} {s : Shared} {Z Y : List Addr} {oa : Str → Addr}, Room A lvl → 0 ≤ s.toks → Fm h₀ g Z env Y oa s.heap ρ → Ex prog w A h₀ g Z env s Y (execs b env) fl ρ'

theorem if_ok (G : Glo h₀ mg mb) (Fs : FnsOk prog w h₀ mg lvl Φ) {t : Expr} {b o : List Stmt} {pos : Pos} {c : Bool} (h : evT Φ t env.scope.names ρ = some c) (hb : c = true → BodyOk prog w lvl h₀ g env b ρ fl ρ') (ho : c = false → BodyOk prog w lvl h₀ g env o ρ fl ρ')
    (rm : Room A lvl) (ht : 0 ≤ s.toks) (F : Fm h₀ g Z env Y oa s.heap ρ) : Ex prog w A h₀ g Z env s Y (exec (.If t b o pos) env) fl ρ' := by
  intro E
  refine wpAny_If (evT_f G Fs h rm ht F fun s' kp t' F' => ?_)
  cases c with
  | true =>
    rw [if_pos rfl]
    exact wpAny_mono (hb rfl rm t' F' E) (fun _ _ ⟨Y', oa', st, F2, hf⟩ => ⟨Y', oa', (Step.kp kp t').trans st, F2, hf⟩) fun _ _ x => x
  | false =>
    rw [if_neg (by decide)]
    exact wpAny_mono (ho rfl rm t' F' E) (fun _ _ ⟨Y', oa', st, F2, hf⟩ => ⟨Y', oa', (Step.kp kp t').trans st, F2, hf⟩) fun _ _ x => x

theorem FlowIs.next_i {Z : List Addr} {h : Heap} {f : Flow} (x : FlowIs Z h f .next) : f = .next := by cases f <;> first | rfl | exact x.elim
theorem FlowIs.brk_i {Z : List Addr} {h : Heap} {f : Flow} (x : FlowIs Z h f .brk) : f = .brk := by cases f <;> first | rfl | exact x.elim
theorem FlowIs.cont_i {Z : List Addr} {h : Heap} {f : Flow} (x : FlowIs Z h f .cont) : f = .cont := by cases f <;> first | rfl | exact x.elim
theorem FlowIs.ret_i {Z : List Addr} {h : Heap} {f : Flow} {d : D} (x : FlowIs Z h f (.ret d)) : ∃ v, f = .ret v ∧ Rep Z h v d := by cases f <;> first | exact ⟨_, rfl, x⟩ | exact x.elim

/-- what a loop's turn leaves to be shown -/
theorem turn_ok {k : Rho → Option (Fl × Rho)} {x : Option (Fl × Rho)} (h : turn k x = some (fl, ρ')) {Z' : List Addr} {s₁ : Shared} {Y₁ : List Addr} {t : Sem Flow} {E' : Value → Shared → Prop}
    (hb : ∀ fl1 ρ1, x = some (fl1, ρ1) → Ex prog w A h₀ g Z' env s₁ Y₁ t fl1 ρ1) (I : Shared → Prop) (R : Flow → Shared → Prop) {Q : Flow → Shared → Prop}
    (next : ∀ ρ1 Y' oa' s₃, k ρ1 = some (fl, ρ') → Step Y₁ s₁ Y' s₃ → Fm h₀ g Z' env Y' oa' s₃.heap ρ1 → I s₃)
    (stop : ∀ f Y' oa' s₃, Step Y₁ s₁ Y' s₃ → Fm h₀ g Z' env Y' oa' s₃.heap ρ' → FlowIs (Y' ++ Z') s₃.heap f fl → R f s₃)
    (qn : ∀ s₃, I s₃ → Q .next s₃) (qc : ∀ s₃, I s₃ → Q .cont s₃) (qb : ∀ s₃, R .next s₃ → Q .brk s₃) (qr : ∀ v s₃, R (.ret v) s₃ → Q (.ret v) s₃) : wpAny (model prog w) A t Q E' s₁ := by
  obtain ⟨f1, ρ2, hx, hl⟩ := turn_i h
  refine wpAny_mono (hb _ _ hx E') (fun f s₃ h₃ => ?_) fun _ _ x => x
  obtain ⟨Y', oa', st, F, hf⟩ := h₃
  cases f1 with
  | next => cases hf.next_i; exact qn _ (next _ _ _ _ hl st F)
  | cont => cases hf.cont_i; exact qc _ (next _ _ _ _ hl st F)
  | brk => cases hf.brk_i; cases hl; exact qb _ (stop _ _ _ _ st F trivial)
  | ret d => obtain ⟨v, rfl, r⟩ := hf.ret_i; cases hl; exact qr _ _ (stop _ _ _ _ st F r)

theorem while_ok (G : Glo h₀ mg mb) (Fs : FnsOk prog w h₀ mg lvl Φ) {t : Expr} {b : List Stmt} {pos : Pos} {body : Rho → Option (Fl × Rho)} (hb : ∀ ρ fl ρ', body ρ = some (fl, ρ') → BodyOk prog w lvl h₀ g env b ρ fl ρ')
    {fuel : Nat} (h : loopW (evT Φ t env.scope.names) body fuel ρ = some (fl, ρ')) (rm : Room A lvl) (ht : 0 ≤ s.toks) (F : Fm h₀ g Z env Y oa s.heap ρ) : Ex prog w A h₀ g Z env s Y (exec (.While t b [] pos) env) fl ρ' := by
  intro E
  refine wpAny_While ?_
  refine codeAny_whileLoop (fun n s' => ∃ ρ1 Y1 oa1, loopW (evT Φ t env.scope.names) body n ρ1 = some (fl, ρ') ∧ Step Y s Y1 s' ∧ Fm h₀ g Z env Y1 oa1 s'.heap ρ1) ?_ fuel ⟨ρ, Y, oa, h, .refl ht, F⟩
  rintro n s' ⟨ρ1, Y1, oa1, hl, st, F1⟩
  cases n with
  | zero => exact no hl
  | succ n =>
    rcases ifO_i hl with ⟨hT, hl⟩ | ⟨hT, hl⟩
    · refine evT_f G Fs hT rm st.tk F1 fun s₂ kp t₂ F₂ => ?_
      rw [if_pos rfl]
      have st2 := st.trans (Step.kp kp t₂)
      exact turn_ok hl (fun fl1 ρ1 hB => hb _ _ _ hB rm t₂ F₂) (fun s₃ => ∃ m, m < n + 1 ∧ ∃ ρ1 Y1 oa1, loopW (evT Φ t env.scope.names) body m ρ1 = some (fl, ρ') ∧ Step Y s Y1 s₃ ∧ Fm h₀ g Z env Y1 oa1 s₃.heap ρ1) (fun f s₃ => Done h₀ g Z env s Y f fl ρ' s₃) (fun ρ2 Y' oa' s₃ hl st3 F3 => ⟨n, Nat.lt_succ_self _, ρ2, Y', oa', hl, st2.trans st3, F3⟩)
        (fun f Y' oa' s₃ st3 F3 hf => ⟨Y', oa', st2.trans st3, F3, hf⟩) (fun _ x => x) (fun _ x => x) (fun _ x => x) (fun _ _ x => x)
    · cases some_i hl
      refine evT_f G Fs hT rm st.tk F1 fun s₂ kp t₂ F₂ => ?_
      rw [if_neg (by decide)]
      exact wpAny_execs_nil ⟨Y1, oa1, st.trans (Step.kp kp t₂), F₂, trivial⟩

/-- the steps of a loop, its iterator's among them -/
theorem step_lift {wr Ya Yb : List Addr} {sa sb : Shared} (q : Step Ya sa Yb sb) : Step (wr ++ Ya) sa (wr ++ Yb) sb :=
  ⟨q.sh, q.tk, fun b o hb e => q.keep b o (fun hm => hb (List.mem_append_right _ hm)) e, fun b hb => by
    rcases List.mem_append.mp hb with hb | hb
    · exact .inl (List.mem_append_left _ hb)
    · rcases q.sub b hb with h | h
      · exact .inl (List.mem_append_right _ h)
      · exact .inr h⟩
theorem step_back {wr Y' : List Addr} {s₂ s' : Shared} (kp : Kp s s₂) (hwr : ∀ b ∈ wr, s.heap.get? b = none) (st : Step (wr ++ Y) s₂ (wr ++ Y') s') : Step Y s Y' s' := by
  refine ⟨?_, st.tk, fun b o hb e => ?_, fun b hb => ?_⟩
  · obtain ⟨h1, t1, rfl, _⟩ := id kp
    obtain ⟨h2, t2, rfl⟩ := st.sh
    exact ⟨h2, t2, rfl⟩
  · exact st.keep b o (fun hm => by
      rcases List.mem_append.mp hm with hm | hm
      · rw [hwr b hm] at e; cases e
      · exact hb hm) (kp.ext b o e)
  · rcases st.sub b (List.mem_append_right _ hb) with h | h
    · rcases List.mem_append.mp h with h | h
      · exact .inr (hwr b h)
      · exact .inl h
    · exact .inr (none_of_ext kp.ext h)
theorem mem_skip {b : Addr} {X W V : List Addr} (h : b ∈ X ++ V) : b ∈ X ++ (W ++ V) := by
  rcases List.mem_append.mp h with h | h
  · exact List.mem_append_left _ h
  · exact List.mem_append_right _ (List.mem_append_right _ h)
theorem VarAt.moved {wr Y1 Zx : List Addr} {hp h' : Heap} {oa1 : Str → Addr} {ρ1 : Rho} {x : Str} {v : Value} (F1 : Fm h₀ g Zx env Y1 oa1 hp ρ1) (ny : ∀ b ∈ Y1, b ∉ wr) (hk' : ∀ b o, b ∉ wr → hp.get? b = some o → h'.get? b = some o) (hv : VarAt hp env x v) : VarAt h' env x v := by
  rcases hv with ⟨k, m, ⟨o, es, ep, ho, r⟩, hv⟩ | ⟨k, c, hc, o, ho, hd⟩
  · exact .inl ⟨k, m, ⟨o, es, ep, hk' _ _ (ny _ F1.loc) ho, r⟩, hv⟩
  · exact .inr ⟨k, c, hc, o, hk' _ _ (ny _ (F1.cell _ _ hc).1) ho, hd⟩
/-- the loop is over: its iterator is left behind -/
theorem Fm.left {wr Y1 : List Addr} {hp h' : Heap} {oa1 : Str → Addr} {ρ1 : Rho} (F1 : Fm h₀ g (wr ++ Z) env Y1 oa1 hp ρ1) (ny : ∀ b ∈ Y1, b ∉ wr) (hZ : ∀ b ∈ Z, b ∉ wr) (hwg : ∀ b ∈ wr, g.get? b = none)
    (hk' : ∀ b o, b ∉ wr → hp.get? b = some o → h'.get? b = some o) : Fm h₀ g Z env Y1 oa1 h' ρ1 := by
  have mo : ∀ b o, b ∉ Y1 ++ (wr ++ Z) → hp.get? b = some o → h'.get? b = some o ∧ b ∉ Y1 ++ Z := fun b o hb ho =>
    ⟨hk' b o (fun hm => hb (List.mem_append_right _ (List.mem_append_left _ hm))) ho, fun hm => hb (mem_skip hm)⟩
  refine ⟨F1.sta, fun b hb => ?_, F1.old, fun b o ho => hk' b o (fun hm => by rw [hwg b hm] at ho; cases ho) (F1.keep b o ho), F1.fresh, fun b hb hm => F1.dis b hb (List.mem_append_right _ hm), F1.loc, ?_, fun n c hc => ⟨(F1.cell n c hc).1, ?_⟩, F1.dbg, fun x d hx => ?_, fun x ds hx => ?_, F1.ownap⟩
  · have hbw : b ∉ wr := fun hm => by
      rcases List.mem_append.mp hb with hb | hb
      · exact ny b hb hm
      · exact hZ b hb hm
    obtain ⟨o, ho⟩ := F1.zin b (mem_skip hb)
    exact ⟨o, hk' b o hbw ho⟩
  · obtain ⟨m, o, es, ep, ho, r⟩ := F1.ns
    exact ⟨m, o, es, ep, hk' _ _ (ny _ F1.loc) ho, r⟩
  · obtain ⟨_, v, o, ho, hd⟩ := F1.cell n c hc
    exact ⟨v, o, hk' _ _ (ny _ (F1.cell _ _ hc).1) ho, hd⟩
  · obtain ⟨v, hv, r⟩ := F1.val x d hx
    exact ⟨v, hv.moved F1 ny hk', r.mono mo⟩
  · obtain ⟨hm, hv, vs, ⟨n, hp⟩, ra⟩ := F1.own x ds hx
    exact ⟨hm, hv.moved F1 ny hk', vs, ⟨n, hk' _ _ (ny _ hm) hp⟩, ra.mono mo⟩
theorem step_wr {wr Y1 Y2 : List Addr} {s₂ s' : Shared} {h' : Heap} {t' : Nat} (st : Step Y2 s₂ (wr ++ Y1) s') (tk : 0 ≤ t') (hk : ∀ b o, b ∉ wr → s'.heap.get? b = some o → h'.get? b = some o) : Step Y2 s₂ (wr ++ Y1) { s' with heap := h', toks := t' } :=
  st.trans ⟨⟨h', t', rfl⟩, tk, fun b o hb e => hk b o (fun hm => hb (List.mem_append_left _ hm)) e, fun _ hb => .inl hb⟩

theorem for_ok (G : Glo h₀ mg mb) (Fs : FnsOk prog w h₀ mg lvl Φ) {x : Str} {xp pos : Pos} {it : Expr} {b : List Stmt} {body : Rho → Option (Fl × Rho)} (hb : ∀ ρ fl ρ', body ρ = some (fl, ρ') → BodyOk prog w lvl h₀ g env b ρ fl ρ')
    {src : List D} (hx : stOk env.scope.names x = true) (hsrc : evI Φ it env.scope.names ρ = some src) (himm : src.all D.imm = true) (h : loopF x body src ρ = some (fl, ρ')) (rm : Room A lvl) (ht : 0 ≤ s.toks) (F : Fm h₀ g Z env Y oa s.heap ρ) :
    Ex prog w A h₀ g Z env s Y (exec (.For (.Name x xp) it b [] pos) env) fl ρ' := by
  intro E
  refine wpAny_For ?_ (fset_ok hsrc env)
  refine wpAny_mono (wpAny_toks_of ht (evI_ok G Fs it hsrc rm ht F.env_ E)) (fun xv s₁ h₁ => ?_) fun _ _ y => y.2
  refine wpAny_mono (wpAny_toks_of h₁.1 h₁.2) (fun itv s₂ h₂ => ?_) fun _ _ y => y.2
  obtain ⟨ht₂, I, fp, wr, P', St, rfl, W, hst, ⟨hfp, hfo⟩, hwr, kp, hP⟩ := h₂
  have hwo : ∀ i h, St i h → ∀ b ∈ wr, ∃ o, h.get? b = some o := fun i h hs b hb => hfo i h hs b (W.sub b hb)
  have F2 : Fm h₀ g (wr ++ Z) env Y oa s₂.heap ρ := F.widenZ kp.ext hwr (hwo 0 _ hst)
  have hwg : ∀ b ∈ wr, g.get? b = none := fun b hb => none_of_ext F.keep (hwr b hb)
  have hwZ : ∀ b ∈ Z, b ∉ wr := fun b hb hm => by
    obtain ⟨o, ho⟩ := F.zin b (List.mem_append_right _ hb)
    rw [hwr b hm] at ho; cases ho
  -- a step may change the iterator as well
  refine codeAny_forLoop (fun n s' => ∃ i ρ1 Y1 oa1, n + i = src.length ∧ St i s'.heap ∧ loopF x body (src.drop i) ρ1 = some (fl, ρ') ∧ Step (wr ++ Y) s₂ (wr ++ Y1) s' ∧ (∀ b ∈ fp, b ∉ Y1) ∧ Fm h₀ g (wr ++ Z) env Y1 oa1 s'.heap ρ1) ?_ src.length
    ⟨0, ρ, Y, oa, rfl, hst, h, .refl ht₂, fun b hb hm => hfp b hb (List.mem_append_left _ hm), F2⟩ (fun _ => rfl)
  rintro n s' ⟨i, ρ1, Y1, oa1, hn, hSt, hl, st, hfY, F1⟩
  cases n with
  | zero =>
    have hi : i = src.length := (Nat.zero_add i).symm.trans hn
    subst hi
    rw [List.drop_length] at hl
    cases some_i hl
    have hpn : ∀ E', wpAny (model prog w) A (pyNext (.ref I)) (fun r s'' => r = none ∧ (∃ h t, s'' = { s' with heap := h, toks := t }) ∧ ∀ b o, b ∉ wr → s'.heap.get? b = some o → s''.heap.get? b = some o) E' s' := fun E' =>
      W.done s' _ E' hSt fun h' tk hk => ⟨rfl, ⟨h', tk, rfl⟩, hk⟩
    refine wpAny_mono (wpAny_toks_of st.tk (hpn _)) (fun r s'' h'' => ?_) fun _ _ y => y.2
    obtain ⟨tk, rfl, ⟨h', t', rfl⟩, hk⟩ := h''
    exact wpAny_execs_nil ⟨Y1, oa1, step_back kp hwr (step_wr st tk hk), F1.left (fun b hb hm => hfY b (W.sub b hm) hb) hwZ hwg hk, trivial⟩
  | succ n =>
    have hi : i < src.length := by omega
    have hpn : ∀ E', wpAny (model prog w) A (pyNext (.ref I)) (fun r s'' => ∃ v, r = some v ∧ P' i v ∧ St (i + 1) s''.heap ∧ (∃ h t, s'' = { s' with heap := h, toks := t }) ∧ ∀ b o, b ∉ wr → s'.heap.get? b = some o → s''.heap.get? b = some o) E' s' := fun E' =>
      W.item i s' _ E' hi hSt fun v h' tk hv hs hk => ⟨v, rfl, hv, hs, ⟨h', tk, rfl⟩, hk⟩
    refine wpAny_mono (wpAny_toks_of st.tk (hpn _)) (fun r s'' h'' => ?_) fun _ _ y => y.2
    obtain ⟨tk, v, rfl, hv, hSt', ⟨h', t', rfl⟩, hk⟩ := h''
    obtain ⟨d, hd, hr⟩ := hP i v hv
    have hr : ∀ Z' h', Rep Z' h' v d := fun Z' h' => rep_imm hr (List.all_eq_true.mp himm d (List.mem_of_getElem? hd))
    have F3 : Fm h₀ g (wr ++ Z) env Y1 oa1 h' ρ1 := F1.moved hk (hwo _ _ hSt') hwg
    have hdrop : src.drop i = d :: src.drop (i + 1) := by
      rw [List.getElem?_eq_getElem hi] at hd
      rw [List.drop_eq_getElem_cons hi, Option.some.inj hd]
    rw [hdrop] at hl
    refine wpAny_assign_Name (store_raw (s := { s' with heap := h', toks := t' }) F3 hx fun a h'' t'' htk S => ?_)
    obtain ⟨oa2, F4, _⟩ := F3.stored S hx (c := .val d) (hr _ _)
    have t3 : 0 ≤ t'' := Nat.le_trans tk htk
    have st3 := (step_wr st tk hk).trans (step_lift (S.step F3 t3))
    refine turn_ok (s₁ := { s' with heap := h'', toks := t'' }) hl (fun fl1 ρ1 hbd => hb _ _ _ hbd rm t3 F4)
      (fun s₃ => ∃ m, m < n + 1 ∧ ∃ i ρ1 Y1 oa1, m + i = src.length ∧ St i s₃.heap ∧ loopF x body (src.drop i) ρ1 = some (fl, ρ') ∧ Step (wr ++ Y) s₂ (wr ++ Y1) s₃ ∧ (∀ b ∈ fp, b ∉ Y1) ∧ Fm h₀ g (wr ++ Z) env Y1 oa1 s₃.heap ρ1)
      (fun f s₃ => Done h₀ g Z env s Y f fl ρ' s₃) (fun ρ2 Y' oa' s₃ hl st4 F5 => ?_) (fun f Y' oa' s₃ st4 F5 hf => ?_) (fun _ x => x) (fun _ x => x) (fun _ x => x) (fun _ _ x => x)
    · have hex : ∀ b ∈ fp, ∀ o, h'.get? b = some o → h''.get? b = some o := fun b hb o e => S.same b o (fun hm => hfY b hb (hm ▸ S.mem F3)) e
      refine ⟨n, Nat.lt_succ_self _, i + 1, ρ2, Y', oa', (Nat.add_right_comm n 1 i).symm.trans hn, W.frame _ _ _ hSt' (fun b hb o e => st4.keep b o (hfY b hb) (hex b hb o e)), hl, st3.trans (step_lift st4), fun b hb hm => ?_, F5⟩
      obtain ⟨o, ho⟩ := hfo _ _ hSt' b hb
      rcases st4.sub b hm with h | h
      · exact hfY b hb h
      · have := (hex b hb o ho).symm.trans h
        cases this
    · refine ⟨Y', oa', step_back kp hwr (st3.trans (step_lift st4)), F5.narrow, ?_⟩
      cases fl with
      | ret d' => obtain ⟨v', rfl, r⟩ := hf.ret_i; exact r.sub fun b hb => mem_skip hb
      | next => cases hf.next_i; trivial
      | brk => cases hf.brk_i; trivial
      | cont => cases hf.cont_i; trivial
end
end Mine
end
section
open PySem PyProof.Rows
set_option maxRecDepth 100000
set_option Elab.async false
set_option maxHeartbeats 4000000
namespace Mine
section
variable {prog : Program} {w : World} {h₀ g : Heap} {env : Env} {mg mb : Str → Option Value} {lvl : Nat} {Φ : Fns} {P : Pol}


section
variable (prog w h₀ g env lvl Φ P)
/-- a statement does what the evaluator tells -/
noncomputable def StOk (st : Stmt) : Prop := ∀ ⦃ρ ρ' : Rho⦄ ⦃fl : Fl⦄, ex Φ P env.scope.names st ρ = some (fl, ρ') → ∀ {A : Around} {s : Shared} {Z Y : List Addr} {oa : Str → Addr}, Room A lvl → 0 ≤ s.toks → Fm h₀ g Z env Y oa s.heap ρ →
    Ex prog w A h₀ g Z env s Y (exec st env) fl ρ'
noncomputable def BlOk (b : List Stmt) : Prop := ∀ ⦃ρ ρ' : Rho⦄ ⦃fl : Fl⦄, exs Φ P env.scope.names b ρ = some (fl, ρ') → BodyOk prog w lvl h₀ g env b ρ fl ρ'
end

theorem fz {A : Around} {s : Shared} {Z Y : List Addr} {oa : Str → Addr} {ρ ρ' : Rho} {t : Sem Flow} {fl : Fl} (ht : 0 ≤ s.toks) (F : Fm h₀ g Z env Y oa s.heap ρ) (line : Nat)
    (k : ∀ Y1, Fm h₀ g Z env Y1 oa s.heap (freeze P line ρ) → Ex prog w A h₀ g Z env s Y1 t fl ρ') : Ex prog w A h₀ g Z env s Y t fl ρ' := by
  obtain ⟨Y1, F1, hs⟩ := F.freeze P line
  exact .pre (.less ht hs) (k Y1 F1)
theorem st_bad {st : Stmt} (h : ∀ ρ, ex Φ P env.scope.names st ρ = none) : StOk prog w h₀ g env lvl Φ P st := fun ρ _ _ h' => no ((h ρ).symm.trans h')
theorem retS_i {ρ ρ' : Rho} {x : Option D} {fl : Fl} (h : retS ρ x = some (fl, ρ')) : ∃ d, x = some d ∧ fl = .ret d ∧ ρ' = ρ := by
  cases x <;> first | exact no h | (cases some_i h; exact ⟨_, rfl, rfl, rfl⟩)
theorem putsO_i {x : Option Rho} {ρ' : Rho} {fl : Fl} (h : putsO x = some (fl, ρ')) : x = some ρ' ∧ fl = .next := by
  cases x <;> first | exact no h | (cases some_i h; exact ⟨rfl, rfl⟩)
theorem and_i {a b : Bool} (h : (a && b) = true) : a = true ∧ b = true := Bool.and_eq_true_iff.mp h
theorem asgS_i {nm : Names} {ρ ρ' : Rho} {x : Str} {v : Option D} {fl : Fl} (h : asgS P nm ρ x v = some (fl, ρ')) : ∃ d, v = some d ∧ stOk nm x = true ∧ fl = .next ∧ ρ' = put ρ x (.val d) := by
  cases v with
  | none => exact no h
  | some d =>
    obtain ⟨hc, h⟩ := ifs h
    cases h
    exact ⟨d, rfl, (and_i hc).2, rfl, rfl⟩
theorem augS_i {nm : Names} {ρ ρ' : Rho} {x : Str} {u v : Option D} {fl : Fl} (h : augS P nm ρ x u v = some (fl, ρ')) : ∃ a b, u = some (.int a) ∧ v = some (.int b) ∧ stOk nm x = true ∧ fl = .next ∧ ρ' = put ρ x (.val (.int (a + b))) := by
  rcases u with _ | u
  · exact no h
  cases u <;> first | exact no h | skip
  rcases v with _ | v
  · exact no h
  cases v <;> first | exact no h | skip
  obtain ⟨hc, h⟩ := ifs h
  cases h
  exact ⟨_, _, rfl, rfl, (and_i hc).2, rfl, rfl⟩
theorem appS_i {ρ ρ' : Rho} {x : Str} {c : Option Cell} {v : Option (List D)} {fl : Fl} (h : appS ρ x c v = some (fl, ρ')) : ∃ ds d, c = some (.own ds) ∧ v = some [d] ∧ ds.length ≤ 1000000 ∧ fl = .next ∧ ρ' = put ρ x (.own (ds ++ [d])) := by
  rcases c with _ | c
  · exact no h
  cases c with
  | val => exact no h
  | own ds =>
    rcases v with _ | v
    · exact no h
    rcases v with _ | ⟨d, _ | ⟨_, _⟩⟩
    · exact no h
    · obtain ⟨hc, h⟩ := ifs h
      cases h
      exact ⟨_, _, rfl, rfl, hc, rfl, rfl⟩
    · exact no h
theorem tupV_i {nm : Names} {ρ ρ' : Rho} {xs : Option (List Str)} {v : Option D} {fl : Fl} (h : tupV P nm ρ xs v = some (fl, ρ')) : ∃ ys ds, xs = some ys ∧ v = some (.tuple ds) ∧ ys.all (stOk nm) = true ∧ puts ρ ys (ds.map .val) = some ρ' ∧ fl = .next := by
  rcases xs with _ | ys
  · exact no h
  rcases v with _ | v
  · exact no h
  cases v <;> first | exact no h | skip
  obtain ⟨hc, h⟩ := ifx h
  obtain ⟨hp, rfl⟩ := putsO_i h
  exact ⟨ys, _, rfl, rfl, (and_i (and_i (and_i (and_i hc).1).1).1).1, hp, rfl⟩
theorem tupD_i {nm : Names} {ρ ρ' : Rho} {al : Bool} {xs : Option (List Str)} {v : Option (List Cell)} {fl : Fl} (h : tupD nm ρ al xs v = some (fl, ρ')) : ∃ ys cs, xs = some ys ∧ v = some cs ∧ ys.all (stOk nm) = true ∧ ys.Nodup ∧ ys.length ≤ 8 ∧ al = false ∧ puts ρ ys cs = some ρ' ∧ fl = .next := by
  rcases xs with _ | ys
  · exact no h
  rcases v with _ | cs
  · exact no h
  obtain ⟨hc, h⟩ := ifx h
  obtain ⟨hp, rfl⟩ := putsO_i h
  obtain ⟨hc, ha⟩ := and_i hc
  obtain ⟨hc, h8⟩ := dec_and' hc
  obtain ⟨hs, hn⟩ := dec_and' hc
  exact ⟨ys, cs, rfl, rfl, hs, hn, h8, by (cases al <;> first | rfl | exact absurd ha Bool.false_ne_true), hp, rfl⟩
theorem forB_i {nm : Names} {ρ : Rho} {x : Str} {body : Rho → Option (Fl × Rho)} {src : Option (List D)} {r : Fl × Rho} (h : forB P nm ρ x body src = some r) : ∃ l, src = some l ∧ stOk nm x = true ∧ l.all D.imm = true ∧ loopF x body l ρ = some r := by
  rcases src with _ | l
  · exact no h
  obtain ⟨hc, h⟩ := ifx h
  exact ⟨l, rfl, (and_i (and_i hc).1).2, (and_i hc).2, h⟩
theorem emp {α : Type} {l : List α} (h : l.isEmpty = true) : l = [] := List.isEmpty_iff.mp h

theorem st_ret (G : Glo h₀ mg mb) (Fs : FnsOk prog w h₀ mg lvl Φ) (e : Option Expr) (pos : Pos) : StOk prog w h₀ g env lvl Φ P (.Return e pos) := by
  intro ρ ρ' fl h A s Z Y oa rm ht F
  cases e with
  | none => exact no h
  | some e =>
    obtain ⟨d, hd, rfl, rfl⟩ := retS_i h
    exact fz (P := P) ht F pos.line fun Y1 F1 => ret_ok G Fs hd rm ht F1
theorem st_expr (G : Glo h₀ mg mb) (Fs : FnsOk prog w h₀ mg lvl Φ) (e : Expr) (pos : Pos) : StOk prog w h₀ g env lvl Φ P (.Expr e pos) := by
  intro ρ ρ' fl h A s Z Y oa rm ht F
  obtain ⟨⟨f, args, kws, cpos⟩, hc, h⟩ := bnd h
  obtain ⟨⟨o, m, apos⟩, ha, h⟩ := bnd h
  obtain ⟨x, hx, h⟩ := bnd h
  obtain ⟨xp, rfl⟩ := nameOf_i hx
  cases callOf_i hc
  cases attrOf_i ha
  obtain ⟨hk, h'⟩ := ifx h
  obtain ⟨hk, hl⟩ := and_i hk
  obtain ⟨hk, hn⟩ := dec_and' hk
  obtain ⟨hk, hm⟩ := dec_and' hk
  cases emp hk
  cases hm
  obtain ⟨ds, d, hx, hv, hlen, rfl, rfl⟩ := appS_i h'
  rcases args with _ | ⟨e, _ | ⟨_, _⟩⟩
  · cases hn
  · exact fz (P := P) ht F pos.line fun Y1 F1 => app_ok G Fs hl hx hlen hv rm ht F1
  · cases hn
theorem st_asg (G : Glo h₀ mg mb) (Fs : FnsOk prog w h₀ mg lvl Φ) (ts : List Expr) (e : Expr) (pos : Pos) : StOk prog w h₀ g env lvl Φ P (.Assign ts e pos) := by
  intro ρ ρ' fl h A s Z Y oa rm ht F
  rcases ts with _ | ⟨t, _ | ⟨_, _⟩⟩
  · exact no h
  · refine fz (P := P) ht F pos.line fun Y1 F1 => ?_
    replace h : asgX Φ P env.scope.names (freeze P pos.line ρ) t e = some (fl, ρ') := h
    unfold asgX at h
    cases hn : nameOf t with
    | some x =>
      rw [hn] at h
      obtain ⟨xp, rfl⟩ := nameOf_i hn
      obtain ⟨d, hd, hs, rfl, rfl⟩ := asgS_i h
      exact asg_ok G Fs hs hd rm ht F1
    | none =>
      rw [hn] at h
      obtain ⟨xs, hxs, h⟩ := bnd h
      obtain ⟨k, tp, rfl⟩ := tupOf_i hxs
      unfold asgT at h
      cases he : tupOf e with
      | some es =>
        rw [he] at h
        obtain ⟨k', p', rfl⟩ := tupOf_i he
        obtain ⟨ys, cs, hys, hcs, h1, h2, h3, h4, h5, rfl⟩ := tupD_i h
        rw [hys] at hcs
        exact tup_disp G Fs hys h1 h2 h3 h4 hcs h5 rm ht F1
      | none =>
        rw [he] at h
        obtain ⟨ys, ds, hys, hds, h1, h2, rfl⟩ := tupV_i h
        exact tup_val G Fs hys h1 (fun es k' p' q => by subst q; cases he) hds h2 rm ht F1
  · exact no h
theorem st_aug (G : Glo h₀ mg mb) (Fs : FnsOk prog w h₀ mg lvl Φ) (t : Expr) (op : Operator) (e : Expr) (pos : Pos) : StOk prog w h₀ g env lvl Φ P (.AugAssign t op e pos) := by
  intro ρ ρ' fl h A s Z Y oa rm ht F
  obtain ⟨x, hx, h⟩ := bnd h
  obtain ⟨xp, rfl⟩ := nameOf_i hx
  obtain ⟨ho, h'⟩ := ifx h
  cases ho
  obtain ⟨a, b, ha, hb, hs, rfl, rfl⟩ := augS_i h'
  exact fz (P := P) ht F pos.line fun Y1 F1 => aug_ok G Fs hs ha hb rm ht F1
theorem st_if (G : Glo h₀ mg mb) (Fs : FnsOk prog w h₀ mg lvl Φ) (t : Expr) {b o : List Stmt} (pos : Pos) (hb : BlOk prog w h₀ g env lvl Φ P b) (ho : BlOk prog w h₀ g env lvl Φ P o) : StOk prog w h₀ g env lvl Φ P (.If t b o pos) := by
  intro ρ ρ' fl h A s Z Y oa rm ht F
  refine fz (P := P) ht F pos.line fun Y1 F1 => ?_
  rcases ifO_i h with ⟨hT, h⟩ | ⟨hT, h⟩
  · exact if_ok G Fs hT (fun _ => hb h) (fun h => nomatch h) rm ht F1
  · exact if_ok G Fs hT (fun h => nomatch h) (fun _ => ho h) rm ht F1
theorem st_while (G : Glo h₀ mg mb) (Fs : FnsOk prog w h₀ mg lvl Φ) (t : Expr) {b : List Stmt} (o : List Stmt) (pos : Pos) (hb : BlOk prog w h₀ g env lvl Φ P b) : StOk prog w h₀ g env lvl Φ P (.While t b o pos) := by
  intro ρ ρ' fl h A s Z Y oa rm ht F
  obtain ⟨ho, h⟩ := ifx h
  cases emp ho
  exact fz (P := P) ht F pos.line fun Y1 F1 => while_ok G Fs (fun _ _ _ hB => hb hB) h rm ht F1
theorem st_for (G : Glo h₀ mg mb) (Fs : FnsOk prog w h₀ mg lvl Φ) (t it : Expr) {b : List Stmt} (o : List Stmt) (pos : Pos) (hb : BlOk prog w h₀ g env lvl Φ P b) : StOk prog w h₀ g env lvl Φ P (.For t it b o pos) := by
  intro ρ ρ' fl h A s Z Y oa rm ht F
  obtain ⟨ho, h⟩ := ifx h
  cases emp ho
  obtain ⟨x, hx, h⟩ := bnd h
  obtain ⟨xp, rfl⟩ := nameOf_i hx
  obtain ⟨l, hl, hs, hi, h⟩ := forB_i h
  exact fz (P := P) ht F pos.line fun Y1 F1 => for_ok G Fs (fun _ _ _ hB => hb hB) hs hl hi h rm ht F1
theorem seqO_i {k : Rho → Option (Fl × Rho)} {x : Option (Fl × Rho)} {fl : Fl} {ρ' : Rho} (h : seqO k x = some (fl, ρ')) : (∃ ρ1, x = some (.next, ρ1) ∧ k ρ1 = some (fl, ρ')) ∨ (x = some (fl, ρ') ∧ fl ≠ .next) := by
  rcases x with _ | ⟨f, ρ1⟩
  · exact no h
  · cases f with
    | next => exact .inl ⟨ρ1, rfl, h⟩
    | _ => cases some_i h; exact .inr ⟨rfl, fun e => nomatch e⟩
theorem bl_ok {b : List Stmt} (hb : ∀ st ∈ b, StOk prog w h₀ g env lvl Φ P st) : BlOk prog w h₀ g env lvl Φ P b := by
  induction b with
  | nil =>
    intro ρ ρ' fl h A s Z Y oa rm ht F
    cases some_i h
    exact fun E => wpAny_execs_nil ⟨Y, oa, .refl ht, F, trivial⟩
  | cons st r ih =>
    intro ρ ρ' fl h A s Z Y oa rm ht F E
    have ih := ih fun st h => hb st (.tail _ h)
    refine wpAny_execs_cons ?_
    rcases seqO_i h with ⟨ρ1, h1, h2⟩ | ⟨h1, hne⟩
    · refine wpAny_mono (hb st (.head _) h1 rm ht F E) (fun f s' hd => ?_) fun _ _ x => x
      obtain ⟨Y1, oa1, stp, F1, hf⟩ := hd
      cases hf.next_i
      exact wpAny_mono (ih h2 rm stp.tk F1 E) (fun _ _ ⟨Y', oa', st', F2, hf⟩ => ⟨Y', oa', stp.trans st', F2, hf⟩) fun _ _ x => x
    · refine wpAny_mono (hb st (.head _) h1 rm ht F E) (fun f s' hd => ?_) fun _ _ x => x
      obtain ⟨Y1, oa1, stp, F1, hf⟩ := hd
      cases f with
      | next => cases fl <;> first | exact absurd rfl hne | exact hf.elim
      | _ => exact ⟨Y1, oa1, stp, F1, hf⟩

theorem st_ok (G : Glo h₀ mg mb) (Fs : FnsOk prog w h₀ mg lvl Φ) : ∀ (n : Nat) (st : Stmt), sizeOf st < n → StOk prog w h₀ g env lvl Φ P st := by
  intro n
  induction n with
  | zero => exact fun _ h => absurd h (Nat.not_lt_zero _)
  | succ n ih =>
    intro st h
    have hL : ∀ {b : List Stmt} {m : Nat}, 1 + sizeOf b ≤ m → m < n + 1 → BlOk prog w h₀ g env lvl Φ P b := fun {b m} h1 h2 => bl_ok fun st hm => ih st (by have := List.sizeOf_lt_of_mem hm; omega)
    cases st with
    | Pass pos =>
      intro ρ ρ' fl h A s Z Y oa rm ht F
      cases some_i h
      exact fun E => wpAny_Pass ⟨Y, oa, .refl ht, F, trivial⟩
    | Break pos =>
      intro ρ ρ' fl h A s Z Y oa rm ht F
      cases some_i h
      exact fun E => wpAny_Break ⟨Y, oa, .refl ht, F, trivial⟩
    | Return e pos => exact st_ret G Fs e pos
    | Expr e pos => exact st_expr G Fs e pos
    | Assign ts e pos => exact st_asg G Fs ts e pos
    | AugAssign t op e pos => exact st_aug G Fs t op e pos
    | If t b o pos => exact st_if G Fs t pos (hL (by rw [Stmt.If.sizeOf_spec]; omega) h) (hL (by rw [Stmt.If.sizeOf_spec]; omega) h)
    | While t b o pos => exact st_while G Fs t o pos (hL (by rw [Stmt.While.sizeOf_spec]; omega) h)
    | For t it b o pos => exact st_for G Fs t it o pos (hL (by rw [Stmt.For.sizeOf_spec]; omega) h)
    | _ => exact st_bad fun _ => rfl

theorem exs_ok (G : Glo h₀ mg mb) (Fs : FnsOk prog w h₀ mg lvl Φ) (b : List Stmt) {ρ ρ' : Rho} {fl : Fl} (h : exs Φ P env.scope.names b ρ = some (fl, ρ')) {A : Around} {s : Shared} {Z Y : List Addr} {oa : Str → Addr} (rm : Room A lvl) (ht : 0 ≤ s.toks) (F : Fm h₀ g Z env Y oa s.heap ρ) :
    Ex prog w A h₀ g Z env s Y (execs b env) fl ρ' :=
  bl_ok (fun st _ => st_ok G Fs _ st (Nat.lt_succ_self _)) h rm ht F
end
end Mine
end
section
open PySem PyProof.Rows
set_option maxRecDepth 100000
set_option Elab.async false
set_option maxHeartbeats 4000000
namespace Mine

theorem bindL_get {kindOf : Str → Option NameKind} : ∀ (binds : List (Str × Value)) (m : Str → Option Value) (x : Str), (x ∉ binds.map (·.1)) → bindL kindOf binds m x = m x
  | [], m, x, _ => rfl
  | (n, v) :: r, m, x, h => by
    rw [List.map_cons, List.mem_cons, not_or] at h
    rw [bindL, bindL_get r _ x h.2]
    split
    · simp [h.1]
    · rfl
theorem bindC_get {kindOf : Str → Option NameKind} : ∀ (binds : List (Str × Value)) (m : Str → Option Value) (x : Str), (x ∉ binds.map (·.1)) → bindC kindOf binds m x = m x
  | [], m, x, _ => rfl
  | (n, v) :: r, m, x, h => by
    rw [List.map_cons, List.mem_cons, not_or] at h
    rw [bindC, bindC_get r _ x h.2]
    split
    · rfl
    · simp [h.1]
theorem bindL_at {kindOf : Str → Option NameKind} : ∀ (binds : List (Str × Value)) (m : Str → Option Value) (x : Str) (v : Value), (binds.map (·.1)).Nodup → (x, v) ∈ binds → kindOf x = some .local → bindL kindOf binds m x = some v
  | [], m, x, v, _, h, _ => nomatch h
  | (n, u) :: r, m, x, v, hn, h, hk => by
    rw [List.map_cons, List.nodup_cons] at hn
    rw [bindL]
    rcases List.mem_cons.mp h with h | h
    · cases h
      rw [bindL_get r _ _ hn.1, if_pos hk]
      simp
    · exact bindL_at r _ x v hn.2 h hk
theorem bindC_at {kindOf : Str → Option NameKind} : ∀ (binds : List (Str × Value)) (m : Str → Option Value) (x : Str) (v : Value), (binds.map (·.1)).Nodup → (x, v) ∈ binds → kindOf x ≠ some .local → bindC kindOf binds m x = some v
  | [], m, x, v, _, h, _ => nomatch h
  | (n, u) :: r, m, x, v, hn, h, hk => by
    rw [List.map_cons, List.nodup_cons] at hn
    rw [bindC]
    rcases List.mem_cons.mp h with h | h
    · cases h
      rw [bindC_get r _ _ hn.1, if_neg hk]
      simp
    · exact bindC_at r _ x v hn.2 h hk

noncomputable def parOk (scope : Scope) (ps : List Str) : Bool := decide ps.Nodup && ps.all (fun p => stOk scope.names p) && decide (scope.kind = .function) && !scope.isCoroutine && !scope.isGenerator

/-- where a frame begins -/
theorem fm_start {h₀ g h₁ : Heap} {Z : List Addr} {name : Str} {scope : Scope} {a : Addr} {cd : Value} {ps : List Str} {vs : List Value} {ds : List D} (hok : parOk scope ps = true) (hlen : vs.length = ps.length) (old : Ext h₀ g) (zi : Zin Z g) (ra : RepAll Z g vs ds)
    (F : Fr g g.objs.size h₁ (bindL (envOfC name scope g.objs.size a cd).kindOf (ps.zip vs) fun _ => none))
    (X : Cl g.objs.size (cellsFrom (g.objs.size + 1) scope.names []) h₁ (bindC (envOfC name scope g.objs.size a cd).kindOf (ps.zip vs) fun _ => none)) :
    ∃ Y, Fm h₀ g Z (envOfC name scope g.objs.size a cd) Y (fun _ => 0) h₁ (ps.zip (ds.map .val)) := by
  unfold parOk at hok
  simp only [Bool.and_eq_true, decide_eq_true_eq, List.all_eq_true] at hok
  obtain ⟨⟨⟨⟨hnd, hst⟩, hk⟩, _⟩, _⟩ := hok
  generalize hcs : cellsFrom (g.objs.size + 1) scope.names [] = cs at X
  have hcells : (envOfC name scope g.objs.size a cd).cells = cs := hcs
  have xab : ∀ n c, cs.lookup n = some c → g.objs.size ≤ c := fun n c hc => Nat.le_of_lt (X.above n c (lookup_mem hc))
  have ymem : ∀ b, b ∈ g.objs.size :: cs.filterMap (fun y => cs.lookup y.1) → b = g.objs.size ∨ ∃ n, cs.lookup n = some b := fun b hb => by
    rcases List.mem_cons.mp hb with h | h
    · exact .inl h
    · obtain ⟨y, _, hy⟩ := List.mem_filterMap.mp h
      exact .inr ⟨_, hy⟩
  have memY : ∀ n c, cs.lookup n = some c → c ∈ g.objs.size :: cs.filterMap (fun y => cs.lookup y.1) := fun n c hc =>
    List.mem_cons_of_mem _ (List.mem_filterMap.mpr ⟨(n, c), lookup_mem hc, hc⟩)
  have nog : ∀ b, g.objs.size ≤ b → g.get? b = none := fun b hge => by
    cases e : g.get? b with
    | none => rfl
    | some o => exact absurd (Heap.lt_size e) (Nat.not_lt.mpr hge)
  have yfresh : ∀ b ∈ g.objs.size :: cs.filterMap (fun y => cs.lookup y.1), g.get? b = none := fun b hb => by
    rcases ymem b hb with rfl | ⟨n, hn⟩
    · exact nog _ (Nat.le_refl _)
    · exact nog _ (xab n b hn)
  have dis : ∀ b ∈ g.objs.size :: cs.filterMap (fun y => cs.lookup y.1), b ∉ Z := fun b hb hz => by
    obtain ⟨o, ho⟩ := zi b hz
    rw [yfresh b hb] at ho; cases ho
  have ext : Ext g h₁ := F.keep
  have fst : ∀ {x c}, (ps.zip (ds.map Cell.val)).lookup x = some c → x ∈ ps := fun {x c} hx => (List.of_mem_zip (lookup_mem hx)).1
  have hst' : ∀ x ∈ ps, (x == ("__debug__" : Str)) = false ∧ (scope.names.lookup x = some .local ∨ scope.names.lookup x = some .cell) := fun x hx => by
    have := hst x hx
    unfold stOk at this
    simp only [Bool.and_eq_true, Bool.or_eq_true, beq_iff_eq] at this
    exact ⟨by simpa using this.1, this.2⟩
  have hnames : ((ps.zip vs).map (·.1)).Nodup := by
    rw [List.map_fst_zip (by omega)]; exact hnd
  refine ⟨g.objs.size :: cs.filterMap (fun y => cs.lookup y.1), ⟨⟨hk, rfl, rfl, fun y hy => ?_, fun n n' c hc hc' => ?_⟩, fun b hb => ?_, old, ext, yfresh, dis, .head _, ⟨_, F.ns⟩, fun n c hc => ?_, fun x c hx => (hst' x (fst hx)).1, fun x d hx => ?_, fun x ds' hx => ?_, fun x y ds' es hx _ _ => ?_⟩⟩
  · have := W.cellsFrom_some scope.names (g.objs.size + 1) [] (.inl hy)
    rw [hcells, ← hcs]
    exact Option.isSome_iff_exists.mp this
  · rw [hcells] at hc hc'
    exact name_of_addr X.apart (lookup_mem hc) (lookup_mem hc')
  · rcases List.mem_append.mp hb with hb | hb
    · rcases ymem b hb with rfl | ⟨n, hn⟩
      · obtain ⟨o, _, _, ho, _⟩ := F.ns; exact ⟨o, ho⟩
      · obtain ⟨o, ho, _⟩ := X.cell n b hn; exact ⟨o, ho⟩
    · obtain ⟨o, ho⟩ := zi b hb
      exact ⟨o, ext _ _ ho⟩
  · rw [hcells] at hc
    exact ⟨memY n c hc, _, X.cell n c hc⟩
  · have hm := lookup_mem hx
    obtain ⟨i, hi, hzi⟩ := List.mem_iff_getElem.mp hm
    rw [List.getElem_zip] at hzi
    simp only [Prod.mk.injEq] at hzi
    rw [List.length_zip] at hi
    have hd : ds[i]? = some d := by
      have h2 := hzi.2
      rw [List.getElem_map] at h2
      cases h2
      exact List.getElem?_eq_getElem _
    obtain ⟨v, hv, r⟩ := ra.get hd
    have hvi : i < vs.length := (List.getElem?_eq_some_iff.mp hv).1
    have hmv : (x, v) ∈ ps.zip vs := by
      rw [List.mem_iff_getElem]
      refine ⟨i, by rw [List.length_zip]; omega, ?_⟩
      rw [List.getElem_zip]
      refine Prod.ext hzi.1 (List.getElem?_eq_some_iff.mp hv).2
    refine ⟨v, ?_, rep_widen ext yfresh r⟩
    · rcases (hst' x (fst hx)).2 with hl | hl
      · exact .inl ⟨hl, _, F.ns, bindL_at _ _ _ _ hnames hmv hl⟩
      · have := W.cellsFrom_some scope.names (g.objs.size + 1) [] (.inl hl)
        rw [hcs] at this
        obtain ⟨c, hc⟩ := Option.isSome_iff_exists.mp this
        have hcell := X.cell x c hc
        rw [bindC_at _ _ _ _ hnames hmv (fun q => by rw [show (envOfC name scope g.objs.size a cd).kindOf x = scope.names.lookup x from rfl, hl] at q; cases q)] at hcell
        exact .inr ⟨hl, c, by rw [hcells]; exact hc, hcell⟩
  · obtain ⟨_, h2⟩ := List.of_mem_zip (lookup_mem hx)
    obtain ⟨y, _, hy⟩ := List.mem_map.mp h2
    cases hy
  · obtain ⟨_, h2⟩ := List.of_mem_zip (lookup_mem hx)
    obtain ⟨y, _, hy⟩ := List.mem_map.mp h2
    cases hy

section
variable {prog : Program} {w : World} {h₀ : Heap} {mg mb : Str → Option Value} {lvl : Nat} {Φ : Fns} {P : Pol}

theorem call_frame {A : Around} {R : Result → Shared → Prop} {s : Shared} {name : Str} {params : Arguments} {body : List Stmt} {scope : Scope}
    {pm cd doc : Value} {a : Addr} {o : Obj} {args : List Value} {binds : List (Str × Value)} (ht : 0 ≤ s.toks)
    (hroom : A.depth < recursionLimit) (ho : s.heap.get? a = some o) (hdata : o.data = .func (Calls.docDef name params body scope pm cd doc)) (hlim : s.heap.NoLimit) (hcd : s.heap.CodeRec cd name)
    (hbind : bindArgs (Calls.docDef name params body scope pm cd doc) ⟨args, []⟩ = pure binds)
    (hkind : ∀ x ∈ binds, scope.names.lookup x.1 = some .local ∨ (scope.names.lookup x.1 = some .cell ∧ ((cellsFrom (s.heap.objs.size + 1) scope.names []).lookup x.1).isSome = true))
    (h : ∀ h₁ tk, 0 ≤ tk → Fr s.heap s.heap.objs.size h₁ (bindL (envOfC name scope s.heap.objs.size a cd).kindOf binds fun _ => none) →
      Cl s.heap.objs.size (cellsFrom (s.heap.objs.size + 1) scope.names []) h₁ (bindC (envOfC name scope s.heap.objs.size a cd).kindOf binds fun _ => none) →
      wpAny (model prog w) (A.deeper (envOfC name scope s.heap.objs.size a cd)) (execs body (envOfC name scope s.heap.objs.size a cd))
        (fun f s' => R (.ok (.ret (match f with | .ret v => v | _ => .none))) s')
        (fun e s' => wpAny (model prog w) (A.deeper (envOfC name scope s.heap.objs.size a cd)) (leaving (envOfC name scope s.heap.objs.size a cd) e)
          (fun _ s'' => R (.error e) s'') (fun e' s'' => R (.error e') s'') s')
        { s with heap := h₁, toks := tk })
    (hco : scope.isCoroutine = false) (hgen : scope.isGenerator = false) (hk : scope.kind = .function) :
    codeAny (model prog w) A (.call (.ref a) ⟨args, []⟩) R s := by
  refine codeAny_call_function (fd := Calls.docDef name params body scope pm cd doc) hroom ho hdata hco hgen rfl hcd ?_
  rw [hbind]
  refine wpAny_pure ?_
  have step := wpAny_toks_of ht (wpAny_newFunctionEnv_cells (M := model prog w) (A := A.in1) (E := fun e s' => R (.error e) s') (s := s) (scope := scope) (globals := mainGlobals) (binds := binds) (qual := name ++ ".<locals>.") (func := some a) (code := cd) (builtins := builtinsNs) hk hkind
    (Q := fun env s' => env = newEnv scope s.heap.objs.size mainGlobals (cellsFrom (s.heap.objs.size + 1) scope.names []) (name ++ ".<locals>.") (some a) cd none builtinsNs ∧
      InCallC s env.locals (bindL env.kindOf binds fun _ => none) env.cells (bindC env.kindOf binds fun _ => none) s') fun env he s' x => ⟨he, x⟩)
  refine wpAny_mono step (fun env s' hx => ?_) fun _ _ x => x.2
  obtain ⟨htk, rfl, X⟩ := hx
  refine ⟨hlim.keeps X.toInCall.keep, codeAny_func ?_⟩
  obtain ⟨h₁, tk, rfl, _⟩ := X.done
  exact h h₁ tk htk ⟨X.toInCall.ns, X.toInCall.keep, X.toInCall.fresh⟩ ⟨X.cell, X.apart, X.above⟩

/-- a function's frame, up to its block -/
theorem fn_frame {a : Addr} {o : Obj} {name : Str} {params : Arguments} {body : List Stmt} {scope : Scope} {pm cd doc : Value} {ps : List Str} (ho : h₀.get? a = some o) (hdata : o.data = .func (Calls.docDef name params body scope pm cd doc)) (hlim : h₀.NoLimit) (hcd : h₀.CodeRec cd name)
    (hbind : ∀ vs : List Value, vs.length = ps.length → bindArgs (Calls.docDef name params body scope pm cd doc) ⟨vs, []⟩ = pure (ps.zip vs)) (hok : parOk scope ps = true)
    {A : Around} {s : Shared} {Z : List Addr} {vs : List Value} {ds : List D} {d : D} (rm : Room A (lvl + 1)) (old : Ext h₀ s.heap) (ht : 0 ≤ s.toks) (zi : Zin Z s.heap) (ra : RepAll Z s.heap vs ds) (hlen : ds.length = ps.length)
    (body_ok : ∀ (env : Env) (Y : List Addr) (s₁ : Shared), env = envOfC name scope s.heap.objs.size a cd → (∃ h t, s₁ = { s with heap := h, toks := t }) → 0 ≤ s₁.toks → Fm h₀ s.heap Z env Y (fun _ => 0) s₁.heap (ps.zip (ds.map .val)) → Room (A.deeper env) lvl → ∀ E,
      wpAny (model prog w) (A.deeper env) (execs body env) (fun f s' => ∃ v, f = .ret v ∧ Kp s s' ∧ Rep Z s'.heap v d) E s₁) :
    Gv prog w A Z s (call (.ref a) vs) d := by
  intro E
  have hvl : vs.length = ps.length := by rw [ra.length, hlen]
  have hok' := hok
  unfold parOk at hok'
  simp only [Bool.and_eq_true, decide_eq_true_eq, List.all_eq_true, Bool.not_eq_true'] at hok'
  obtain ⟨⟨⟨⟨hnd, hst⟩, hk⟩, hco⟩, hgen⟩ := hok'
  refine wpAny_call (call_frame ht ?_ (old _ _ ho) hdata (hlim.keeps old) (hcd.keeps old) (hbind vs hvl) ?_ ?_ hco hgen hk)
  · have := rm.2.1
    show A.depth < 1000
    omega
  · intro x hx
    have hx' : x.1 ∈ ps := (List.of_mem_zip hx).1
    have := hst x.1 hx'
    unfold stOk at this
    simp only [Bool.and_eq_true, Bool.or_eq_true, beq_iff_eq] at this
    rcases this.2 with h | h
    · exact .inl h
    · exact .inr ⟨h, W.cellsFrom_some _ _ _ (.inl h)⟩
  · intro h₁ tk htk F X
    obtain ⟨Y, F₀⟩ := fm_start hok hvl old zi ra F X
    refine wpAny_mono (body_ok _ Y { s with heap := h₁, toks := tk } rfl ⟨h₁, tk, rfl⟩ htk F₀ (rm.deeper _) _) (fun f s' hf => ?_) fun _ _ x => x
    obtain ⟨v, rfl, kp, r⟩ := hf
    exact ⟨kp, r⟩

/-- a function whose block the evaluator takes -/
theorem fn_gv (G : Glo h₀ mg mb) (Fs : FnsOk prog w h₀ mg lvl Φ) {a : Addr} {o : Obj} {name : Str} {params : Arguments} {body : List Stmt} {scope : Scope} {pm cd doc : Value} {ps : List Str} (ho : h₀.get? a = some o) (hdata : o.data = .func (Calls.docDef name params body scope pm cd doc)) (hlim : h₀.NoLimit) (hcd : h₀.CodeRec cd name)
    (hbind : ∀ vs : List Value, vs.length = ps.length → bindArgs (Calls.docDef name params body scope pm cd doc) ⟨vs, []⟩ = pure (ps.zip vs)) (hok : parOk scope ps = true)
    {ds : List D} {d : D} {ρ' : Rho} (hlen : ds.length = ps.length) (run : exs Φ P scope.names body (ps.zip (ds.map .val)) = some (.ret d, ρ'))
    {A : Around} {s : Shared} {Z : List Addr} {vs : List Value} (rm : Room A (lvl + 1)) (old : Ext h₀ s.heap) (ht : 0 ≤ s.toks) (zi : Zin Z s.heap) (ra : RepAll Z s.heap vs ds) :
    Gv prog w A Z s (call (.ref a) vs) d := by
  refine fn_frame (lvl := lvl) ho hdata hlim hcd hbind hok rm old ht zi ra hlen fun env Y s₁ he hs₁ ht₁ F rm' E => ?_
  subst he
  refine wpAny_mono (exs_ok (P := P) G Fs body (env := envOfC name scope s.heap.objs.size a cd) run rm' ht₁ F E) (fun f s' hd => ?_) fun _ _ x => x
  obtain ⟨Y', oa', st, F', hf⟩ := hd
  cases f with
  | ret v =>
    refine ⟨v, rfl, ?_, Rep.sub hf fun b hb => List.mem_append_right _ hb⟩
    obtain ⟨h₁, t₁, rfl⟩ := hs₁
    obtain ⟨h₂, t₂, rfl⟩ := st.sh
    exact ⟨h₂, t₂, rfl, F'.keep⟩
  | _ => exact False.elim hf
end
end Mine
end
section
open PySem
set_option maxRecDepth 100000
set_option Elab.async false
namespace Mine
theorem bo_addI (a b : Int) : binop .Add (.int a) (.int b) = some (.int (a + b)) := rfl
theorem bo_subI (a b : Int) : binop .Sub (.int a) (.int b) = some (.int (a - b)) := rfl
theorem bo_mulI {a b : Int} (h : small a = true) (h' : small b = true) : binop .Mult (.int a) (.int b) = some (.int (a * b)) := if_pos (c := (small a && small b) = true) (by rw [h, h']; rfl)
theorem bo_modI {a b : Int} (h : b ≠ 0) : binop .Mod (.int a) (.int b) = some (.int (a.fmod b)) := if_pos h
theorem bo_divI {a b : Int} (h : b ≠ 0) (h' : b.natAbs < 1073741824) : binop .FloorDiv (.int a) (.int b) = some (.int (a.fdiv b)) := if_pos (c := (decide (b ≠ 0) && decide (b.natAbs < 1073741824)) = true) (by rw [decide_eq_true h, decide_eq_true h']; rfl)
theorem bo_powI {a n : Int} (h : small a = true) (h0 : 0 ≤ n) (h1 : n ≤ 1000) : binop .Pow (.int a) (.int n) = some (.int (a ^ n.toNat)) := if_pos (c := (small a && decide (0 ≤ n) && decide (n ≤ 1000)) = true) (by rw [h, decide_eq_true h0, decide_eq_true h1]; rfl)
theorem bo_shrI {a n : Int} (h0 : 0 ≤ n) : binop .RShift (.int a) (.int n) = some (.int (a.fdiv (2 ^ n.toNat))) := if_pos h0
theorem bo_shlI {a n : Int} (h : small a = true) (h0 : 0 ≤ n) (h1 : n ≤ 1000) : binop .LShift (.int a) (.int n) = some (.int (a * 2 ^ n.toNat)) := if_pos (c := (small a && decide (0 ≤ n) && decide (n ≤ 1000)) = true) (by rw [h, decide_eq_true h0, decide_eq_true h1]; rfl)
theorem bo_andI (a b : Int) : binop .BitAnd (.int a) (.int b) = some (.int (Builtin.bitAnd a b)) := rfl
theorem bo_addS {a b : Str} (h : a.length + b.length ≤ cap) : binop .Add (.str a) (.str b) = some (.str (a ++ b)) := if_pos h
theorem bo_mulS {a : Str} {n : Int} (h : a.length = 1) (h0 : 0 ≤ n) (h1 : n ≤ 1000000) : binop .Mult (.str a) (.int n) = some (.str ⟨(rep n.toNat a.cps.toList).toArray⟩) := if_pos ⟨h, h0, h1⟩
theorem bo_addB {a b : List UInt8} (h : a.length + b.length ≤ cap) : binop .Add (.bytes a) (.bytes b) = some (.bytes (a ++ b)) := if_pos h
theorem bo_addL {a b : List D} (h : a.length + b.length ≤ cap) : binop .Add (.list a) (.list b) = some (.list (a ++ b)) := if_pos h
theorem cm_eq (a b : D) : cmp .Eq a b = eqD a b := rfl
theorem cm_ne (a b : D) : cmp .NotEq a b = (eqD a b).map (!·) := rfl
theorem cm_lt (a b : Int) : cmp .Lt (.int a) (.int b) = some (decide (a < b)) := rfl
theorem cm_le (a b : Int) : cmp .LtE (.int a) (.int b) = some (decide (a ≤ b)) := rfl
theorem cm_gt (a b : Int) : cmp .Gt (.int a) (.int b) = some (decide (a > b)) := rfl
theorem cm_ge (a b : Int) : cmp .GtE (.int a) (.int b) = some (decide (a ≥ b)) := rfl
theorem eq_int (a b : Int) : eqD (.int a) (.int b) = some (decide (a = b)) := rfl
theorem eq_str (a b : Str) : eqD (.str a) (.str b) = some (decide (a = b)) := rfl
theorem eq_bytes (a b : List UInt8) : eqD (.bytes a) (.bytes b) = some (decide (a = b)) := rfl
theorem tr_int (a : Int) : truth (.int a) = some (decide (a ≠ 0)) := rfl
theorem tr_bool (a : Bool) : truth (.bool a) = some a := rfl
theorem cd_int (i : Int) : constD (.int i) = some (.int i) := rfl
theorem cd_str (i : Str) : constD (.str i) = some (.str i) := rfl
theorem cd_bytes (i : List UInt8) : constD (.bytes i) = some (.bytes i) := rfl
theorem cd_none : constD .none = some .none := rfl
theorem cd_bool (i : Bool) : constD (.bool i) = some (.bool i) := rfl
theorem freeze0 (line : Nat) (ρ : Rho) : freeze ({} : Pol) line ρ = ρ := freeze_miss rfl
theorem own0 (x : Str) : ({} : Pol).own.contains x = false := rfl
theorem asg0 {nm : Names} {ρ : Rho} {x : Str} {d : D} (h2 : stOk nm x = true) : asgS ({} : Pol) nm ρ x (some d) = some (.next, put ρ x (.val d)) := asgS_some rfl h2
theorem aug0 {nm : Names} {ρ : Rho} {x : Str} {a b : Int} (h2 : stOk nm x = true) : augS ({} : Pol) nm ρ x (some (.int a)) (some (.int b)) = some (.next, put ρ x (.val (.int (a + b)))) := augS_some rfl h2
theorem for0 {Φ : Fns} {nm : Names} {ρ : Rho} {x : Str} {b : List Stmt} {src : List D} (h2 : stOk nm x = true) (h3 : src.all D.imm = true) : forS Φ ({} : Pol) nm ρ x b (some src) = loopF x (exs Φ ({} : Pol) nm b) src ρ := forS_some rfl h2 h3
theorem nocontains (x : Str) : ([] : List Str).contains x = false := rfl
end Mine
end
section
open PySem
set_option maxRecDepth 100000
set_option Elab.async false
namespace Mine

/-- a text of a list of code points -/
noncomputable def sl (l : List Nat) : Str := ⟨l.toArray⟩
theorem sl_ofS (s : String) : Str.ofString s = sl (s.toList.map Char.toNat) := Str.ofString_eq_toList s
theorem sl_inj (a b : List Nat) : (sl a = sl b) = (a = b) := by
  refine propext ⟨fun h => ?_, fun h => by rw [h]⟩
  have := congrArg (fun x => x.cps.toList) h
  simpa [sl] using this
theorem sl_len (a : List Nat) : (sl a).length = a.length := by simp [sl, Str.length]
theorem sl_app (a b : List Nat) : sl a ++ sl b = sl (a ++ b) := by
  show Str.append (sl a) (sl b) = _
  simp [Str.append, sl]
theorem sl_cps (a : List Nat) : (sl a).cps.toList = a := by simp [sl]
theorem sl_eta (s : Str) : s = sl s.cps.toList := by cases s; simp [sl]

theorem addS {a b : List Nat} (h : a.length + b.length ≤ cap) : binop .Add (.str (sl a)) (.str (sl b)) = some (.str (sl (a ++ b))) := by
  rw [bo_addS (by rw [sl_len, sl_len]; exact h), sl_app]
theorem rep_one {α : Type} (n : Nat) (a : α) : rep n [a] = List.replicate n a := by
  unfold rep
  induction n with
  | zero => rfl
  | succ n ih => rw [List.replicate_succ, List.flatten_cons, ih, List.replicate_succ]; rfl
theorem mulS {c : Nat} {n : Int} (h0 : 0 ≤ n) (h1 : n ≤ 1000000) : binop .Mult (.str (sl [c])) (.int n) = some (.str (sl (List.replicate n.toNat c))) := by
  rw [bo_mulS (by rw [sl_len]; rfl) h0 h1, sl_cps, rep_one]; rfl

theorem small_of {i : Int} (h0 : -1000000000 ≤ i) (h1 : i ≤ 1000000000) : small i = true := by
  unfold small
  simp only [Bool.and_eq_true, decide_eq_true_eq]
  constructor <;> omega

theorem kl_nat (a n : Nat) : W.kms_lo (some (a : Int)) n = min a n := by
  show (if (a : Int) < 0 then n - (-(a : Int)).toNat else min (a : Int).toNat n) = min a n
  rw [if_neg (by omega)]; simp
theorem kh_nat (a n : Nat) : W.kms_hi (some (a : Int)) n = min a n := by
  show (if (a : Int) < 0 then n - (-(a : Int)).toNat else min (a : Int).toNat n) = min a n
  rw [if_neg (by omega)]; simp
theorem kl_neg (a n : Nat) (h : 0 < a) : W.kms_lo (some (-(a : Int))) n = n - a := by
  show (if (-(a : Int)) < 0 then n - (-(-(a : Int))).toNat else min (-(a : Int)).toNat n) = n - a
  rw [if_pos (by omega)]; simp
theorem kh_neg (a n : Nat) (h : 0 < a) : W.kms_hi (some (-(a : Int))) n = n - a := by
  show (if (-(a : Int)) < 0 then n - (-(-(a : Int))).toNat else min (-(a : Int)).toNat n) = n - a
  rw [if_pos (by omega)]; simp
theorem kl_none (n : Nat) : W.kms_lo none n = 0 := rfl
theorem kh_none (n : Nat) : W.kms_hi none n = n := rfl

section
variable {α : Type}
theorem pk_take (l : List α) (n : Nat) : pickL l none (some (n : Int)) none = l.take n := by
  rw [pickL_none, kl_none, kh_nat, List.drop_zero, Nat.sub_zero, List.take_eq_take_iff]
  omega
theorem pk_drop (l : List α) (n : Nat) : pickL l (some (n : Int)) none none = l.drop n := by
  rw [pickL_none, kl_nat, kh_none]
  by_cases h : n ≤ l.length
  · rw [Nat.min_eq_left h]
    exact List.take_of_length_le (by rw [List.length_drop]; omega)
  · rw [Nat.min_eq_right (by omega), List.drop_of_length_le (by omega : l.length ≤ l.length), List.drop_of_length_le (by omega), List.take_nil]
theorem pk_mid (l : List α) (a b : Nat) (h : b ≤ l.length) : pickL l (some (a : Int)) (some (b : Int)) none = (l.drop a).take (b - a) := by
  rw [pickL_none, kl_nat, kh_nat, Nat.min_eq_left h]
  by_cases ha : a ≤ l.length
  · rw [Nat.min_eq_left ha]
  · rw [Nat.min_eq_right (by omega), List.drop_of_length_le (by omega : l.length ≤ l.length), List.drop_of_length_le (by omega), List.take_nil, List.take_nil]
theorem pk_last (l : List α) (n : Nat) (h : 0 < n) : pickL l (some (-(n : Int))) none none = l.drop (l.length - n) := by
  rw [pickL_none, kl_neg _ _ h, kh_none]
  exact List.take_of_length_le (by rw [List.length_drop]; omega)
theorem pk_init (l : List α) (n : Nat) (h : 0 < n) : pickL l none (some (-(n : Int))) none = l.take (l.length - n) := by
  rw [pickL_none, kl_none, kh_neg _ _ h, List.drop_zero, Nat.sub_zero]
end

theorem pt_none : part? .none = some none := rfl
theorem pt_int {i : Int} (h0 : -1000000000 ≤ i) (h1 : i ≤ 1000000000) : part? (.int i) = some (some i) := by
  simp only [part?, small_of h0 h1, if_true]
theorem slice_of {v lo hi st : D} {lo' hi' st' : Option Int} (h1 : part? lo = some lo') (h2 : part? hi = some hi') (h3 : part? st = some st') : slice v lo hi st = sliceAt v lo' hi' st' := by
  unfold slice
  rw [h1, h2, h3]; rfl
theorem sliceS {l : List Nat} {lo hi : D} {lo' hi' : Option Int} (h1 : part? lo = some lo') (h2 : part? hi = some hi') (hc : l.length ≤ cap) : slice (.str (sl l)) lo hi .none = some (.str (sl (pickL l lo' hi' none))) :=
  (slice_of h1 h2 pt_none).trans (if_pos (c := (sl l).length ≤ cap) (by rw [sl_len]; exact hc))
theorem sliceL {l : List D} {lo hi : D} {lo' hi' : Option Int} (h1 : part? lo = some lo') (h2 : part? hi = some hi') (hc : l.length ≤ cap) : slice (.list l) lo hi .none = some (.list (pickL l lo' hi' none)) :=
  (slice_of h1 h2 pt_none).trans (if_pos (c := (decide (l.length ≤ cap) && decide ((none : Option Int) ≠ some 0)) = true) (by rw [decide_eq_true hc]; rfl))
theorem sliceB {l : List UInt8} {lo hi : D} {lo' hi' : Option Int} (h1 : part? lo = some lo') (h2 : part? hi = some hi') (hc : l.length ≤ cap) : slice (.bytes l) lo hi .none = some (.bytes (pickL l lo' hi' none)) :=
  (slice_of h1 h2 pt_none).trans (if_pos hc)
theorem idx_nat {n k : Nat} (h : k < n) : idx? n (k : Int) = some k := by
  unfold idx?
  rw [if_pos ⟨by omega, by omega⟩]; simp
theorem idx_neg {n k : Nat} (h : k ≤ n) (h0 : 0 < k) : idx? n (-(k : Int)) = some (n - k) := by
  unfold idx?
  rw [if_neg (by omega), if_pos ⟨by omega, by omega⟩]
  congr 1
  omega
theorem indexS {l : List Nat} {k c : Nat} (h : l[k]? = some c) (hc : l.length ≤ cap) : index (.str (sl l)) (.int (k : Int)) = some (.str (sl [c])) := by
  have hk : k < l.length := (List.getElem?_eq_some_iff.mp h).1
  refine (if_pos (c := (sl l).length ≤ cap) (by rw [sl_len]; exact hc)).trans ?_
  rw [sl_len, idx_nat hk, Option.bind_some, sl_cps, h]; rfl
theorem indexL {l : List D} {k : Nat} {d : D} (h : l[k]? = some d) (hc : l.length ≤ cap) : index (.list l) (.int (k : Int)) = some d := by
  have hk : k < l.length := (List.getElem?_eq_some_iff.mp h).1
  refine (if_pos hc).trans ?_
  rw [idx_nat hk, Option.bind_some, h]
theorem bi_len (ds : List D) : builtin? (Str.ofString "len") ds = one lenD ds := if_pos rfl
theorem lenS {l : List Nat} (hc : l.length ≤ cap) : builtin? (Str.ofString "len") [.str (sl l)] = some (.int l.length) :=
  (bi_len _).trans ((if_pos (c := (sl l).length ≤ cap) (by rw [sl_len]; exact hc)).trans (by rw [sl_len]))
theorem lenL {l : List D} (hc : l.length ≤ cap) : builtin? (Str.ofString "len") [.list l] = some (.int l.length) := (bi_len _).trans (if_pos hc)
theorem lenB {l : List UInt8} (hc : l.length ≤ cap) : builtin? (Str.ofString "len") [.bytes l] = some (.int l.length) := (bi_len _).trans (if_pos hc)

/-- the quoted part, read on -/
noncomputable def scan : List Nat → List Nat
  | [] => []
  | 34 :: 34 :: r => 34 :: scan r
  | 34 :: _ => []
  | c :: r => c :: scan r
end Mine
end
section
open PySem
set_option maxRecDepth 100000
set_option Elab.async false
namespace Mine
noncomputable def fnames (p : Program) (k : Nat) : Names := match p.main.body[k]? with
  | some (.FunctionDef _ _ _ _ _ _ sc _ _ _) => sc.names
  | _ => []
noncomputable def fbody (p : Program) (k : Nat) : List Stmt := match p.main.body[k]? with
  | some (.FunctionDef _ _ b _ _ _ _ _ _ _) => b
  | _ => []
noncomputable def inner? (b : List Stmt) (k : Nat) : List Stmt := match b[k]? with
  | some (.While _ b _ _) => b
  | some (.For _ _ b _ _) => b
  | some (.If _ b _ _) => b
  | _ => []
noncomputable def other? (b : List Stmt) (k : Nat) : List Stmt := match b[k]? with
  | some (.If _ _ b _) => b
  | _ => []
noncomputable def tst? (b : List Stmt) (k : Nat) : Expr := match b[k]? with
  | some (.While t _ _ _) => t
  | some (.If t _ _ _) => t
  | some (.For _ t _ _ _) => t
  | some (.Assign _ t _) => t
  | _ => .Constant .none 0 ⟨0, 0, 0, 0⟩
noncomputable def pos? (b : List Stmt) (k : Nat) : Pos := match b[k]? with
  | some (.While _ _ _ p) => p
  | some (.If _ _ _ p) => p
  | some (.For _ _ _ _ p) => p
  | _ => ⟨0, 0, 0, 0⟩
noncomputable def tpos? (b : List Stmt) (k : Nat) : Pos := match b[k]? with
  | some (.For (.Name _ p) _ _ _ _) => p
  | _ => ⟨0, 0, 0, 0⟩
section
variable (Φ : Fns) (P : Pol) (nm : Names) (ρ : Rho)
theorem exs_app : ∀ (a b : List Stmt) (ρ : Rho), exs Φ P nm (a ++ b) ρ = andThen Φ P nm b (exs Φ P nm a ρ)
  | [], b, ρ => rfl
  | s :: a, b, ρ => by
    rw [List.cons_append, exs_cons, exs_cons]
    generalize ex Φ P nm s ρ = x
    rcases x with _ | ⟨fl, ρ'⟩
    · rfl
    · cases fl with
      | next => rw [andThen_next, andThen_next, exs_app a b]
      | _ => rfl
theorem exs_at {L : List Stmt} {k : Nat} {st : Stmt} (h : L[k]? = some st) : exs Φ P nm L ρ = andThen Φ P nm (st :: L.drop (k + 1)) (exs Φ P nm (L.take k) ρ) := by
  rw [← exs_app]
  congr 1
  have hk := (List.getElem?_eq_some_iff.mp h)
  obtain ⟨hk, e⟩ := hk
  rw [← e, ← List.drop_eq_getElem_cons hk, List.take_append_drop]
end
end Mine
end
section
open PySem
set_option maxRecDepth 100000
set_option Elab.async false
namespace Mine
theorem ca8_bin (l r : Expr) (op : Operator) (p : Pos) : constantsAlone 8 (.BinOp l op r p) = (constantsAlone 7 l && constantsAlone 7 r) := rfl
theorem ca8_sub (l r : Expr) (p : Pos) : constantsAlone 8 (.Subscript l r p) = (constantsAlone 7 l && constantsAlone 7 r) := rfl
theorem ca7_sub (l r : Expr) (p : Pos) : constantsAlone 7 (.Subscript l r p) = (constantsAlone 6 l && constantsAlone 6 r) := rfl
theorem ca8_name (x : Str) (p : Pos) : constantsAlone 8 (.Name x p) = (x == ("__debug__" : Str)) := rfl
theorem ca7_name (x : Str) (p : Pos) : constantsAlone 7 (.Name x p) = (x == ("__debug__" : Str)) := rfl
theorem ca6_name (x : Str) (p : Pos) : constantsAlone 6 (.Name x p) = (x == ("__debug__" : Str)) := rfl
theorem ca7_const (c : Const) (k : Nat) (p : Pos) : constantsAlone 7 (.Constant c k p) = true := rfl
theorem ca8_const (c : Const) (k : Nat) (p : Pos) : constantsAlone 8 (.Constant c k p) = true := rfl
theorem ca7_slice (a b c : Option Expr) (p : Pos) : constantsAlone 7 (.Slice a b c p) = false := rfl
theorem ca8_list (es : List Expr) (p : Pos) : constantsAlone 8 (.List es p) = false := rfl
section
variable (Φ : Fns) (P : Pol) (nm : Names) (ρ : Rho)
theorem putsO_some : putsO (some ρ) = some (.next, ρ) := rfl
theorem puts_nil : puts ρ [] [] = some ρ := rfl
theorem puts_cons (x : Str) (xs : List Str) (c : Cell) (cs : List Cell) : puts ρ (x :: xs) (c :: cs) = puts (put ρ x c) xs cs := rfl
theorem namesOf_nil : namesOf [] = some [] := rfl
theorem namesOf_name (x : Str) (p : Pos) (r : List Expr) : namesOf (.Name x p :: r) = (namesOf r).map (x :: ·) := rfl
theorem tupV_some {P : Pol} {nm : Names} {ρ : Rho} {xs : List Str} {ds : List D} (h : tupOk P nm xs = true) (hl : ds.length = xs.length) : tupV P nm ρ (some xs) (some (.tuple ds)) = putsO (puts ρ xs (ds.map .val)) :=
  if_pos (c := (tupOk P nm xs && decide (ds.length = xs.length)) = true) (by rw [h, decide_eq_true hl]; rfl)
theorem ex_tup_call (ts : List Expr) (k : Nat) (tp : Pos) (f : Expr) (a : List Expr) (kw : List Keyword) (cp pos : Pos) : ex Φ P nm (.Assign [.Tuple ts k tp] (.Call f a kw cp) pos) ρ = tupV P nm (freeze P pos.line ρ) (namesOf ts) (ev Φ (.Call f a kw cp) nm (freeze P pos.line ρ)) := rfl
theorem consC_some (c : Cell) (cs : List Cell) : consC (some c) (some cs) = some (c :: cs) := rfl
theorem evC_nil : evC Φ P [] [] nm ρ = some [] := rfl
theorem evC_step (x : Str) (xs : List Str) (e : Expr) (es : List Expr) : evC Φ P (x :: xs) (e :: es) nm ρ = consC (cellE Φ P nm ρ x e) (evC Φ P xs es nm ρ) := rfl
theorem cellE_own {Φ : Fns} {P : Pol} {nm : Names} {ρ : Rho} {x : Str} {p : Pos} (h : P.own.contains x = true) : cellE Φ P nm ρ x (.List [] p) = some (.own []) := (if_pos h).trans (if_pos rfl)
theorem cellE_val {Φ : Fns} {P : Pol} {nm : Names} {ρ : Rho} {x : Str} {e : Expr} (h : P.own.contains x = false) : cellE Φ P nm ρ x e = (ev Φ e nm ρ).map .val := if_neg (by rw [h]; exact Bool.false_ne_true)
theorem tupD_some {nm : Names} {ρ : Rho} {xs : List Str} {cs : List Cell} (h : dispOk nm xs = true) : tupD nm ρ false (some xs) (some cs) = putsO (puts ρ xs cs) :=
  if_pos (c := (dispOk nm xs && !false) = true) (by rw [h]; rfl)
theorem evCO_some (es : List Expr) (xs : List Str) : evCO Φ P nm ρ es (some xs) = evC Φ P xs es nm ρ := rfl
theorem ex_tup_disp (ts : List Expr) (k : Nat) (tp : Pos) (es : List Expr) (k' : Nat) (tp' pos : Pos) : ex Φ P nm (.Assign [.Tuple ts k tp] (.Tuple es k' tp') pos) ρ = tupD nm (freeze P pos.line ρ) (es.all (constantsAlone 8)) (namesOf ts) (evCO Φ P nm (freeze P pos.line ρ) es (namesOf ts)) := rfl

-- methods
theorem meth_if {a b : Bool} {x : Option D} (h : (a && b) = true) : (if (a && b && true) = true then x else none) = x := if_pos (by rw [h]; rfl)
theorem ev_meth_const (c : Const) (k : Nat) (p : Pos) (m : Str) (apos pos : Pos) (args : List Expr) (h : (apos.endLine == pos.line && decide (args.length < 5)) = true) :
    ev Φ (.Call (.Attribute (.Constant c k p) m apos) args [] pos) nm ρ = callM m args (constD c) (evs Φ args nm ρ) := meth_if h
theorem ev_meth_sub (v i : Expr) (p : Pos) (m : Str) (apos pos : Pos) (args : List Expr) (h : (apos.endLine == pos.line && decide (args.length < 5)) = true) :
    ev Φ (.Call (.Attribute (.Subscript v i p) m apos) args [] pos) nm ρ = callM m args (ev Φ (.Subscript v i p) nm ρ) (evs Φ args nm ρ) := meth_if h
theorem ev_meth_call (f a : Expr) (as : List Expr) (kw : List Keyword) (p : Pos) (m : Str) (apos pos : Pos) (args : List Expr) (h : (apos.endLine == pos.line && decide (args.length < 5)) = true) :
    ev Φ (.Call (.Attribute (.Call f (a :: as) kw p) m apos) args [] pos) nm ρ = callM m args (ev Φ (.Call f (a :: as) kw p) nm ρ) (evs Φ args nm ρ) := meth_if h
theorem methN_own (m : Str) (args : List Expr) (ds : Option (List D)) (xs : List D) : methN m args ds (some (.own xs)) = callOwn m xs ds := rfl
theorem methN_val (m : Str) (args : List Expr) (ds : Option (List D)) (d : D) : methN m args ds (some (.val d)) = callM m args (some d) ds := rfl
theorem ev_meth_name (x : Str) (p : Pos) (m : Str) (apos pos : Pos) (args : List Expr) (h : (apos.endLine == pos.line && decide (args.length < 5)) = true) :
    ev Φ (.Call (.Attribute (.Name x p) m apos) args [] pos) nm ρ = methN m args (evs Φ args nm ρ) (ρ.lookup x) := meth_if h
theorem callM_some {m : Str} (args : List Expr) (d : D) (ds : List D) (h : (m = Str.ofString "replace") = False) : callM m args (some d) (some ds) = method? m d ds := if_neg (of_eq_false h)
theorem compS_some {Φ : Fns} {nm : Names} {ρ : Rho} {elt : Expr} {ifs : List Expr} {x : Str} {sc : Scope} {src : List D} (h1 : src.length ≤ cap) (h2 : src.all D.imm = true) (h3 : compOk sc x nm = true) :
    compS Φ nm ρ elt ifs x sc (some src) = (compL (fun d => evA Φ ifs sc.names ((x, .val d) :: inner sc.names nm ρ)) (fun d => ev Φ elt sc.names ((x, .val d) :: inner sc.names nm ρ)) src).map .list :=
  if_pos (c := (decide ((0 : Int) = 0) && decide (src.length ≤ cap) && src.all D.imm && compOk sc x nm) = true) (by rw [decide_eq_true rfl, decide_eq_true h1, h2, h3]; rfl)
/-- a comprehension without tests -/
theorem compL_filter {test : D → Option Bool} {elt : D → Option D} {src : List D} {f : D → D} {p : D → Bool} (h : ∀ d ∈ src, test d = some (p d) ∧ (p d = true → elt d = some (f d) ∧ (f d).imm = true)) : compL test elt src = some ((src.filter p).map f) := by
  induction src with
  | nil => rfl
  | cons d r ih =>
    have ih := ih (fun d hd => h d (.tail _ hd))
    obtain ⟨h1, h2⟩ := h d (.head _)
    show (test d).bind (fun b => consD b (elt d) (compL test elt r)) = _
    rw [h1, ih, List.filter_cons]
    cases hp : p d with
    | true =>
      obtain ⟨h3, h4⟩ := h2 hp
      rw [h3, if_pos rfl]
      exact if_pos h4
    | false => rfl
theorem compL_map {elt : D → Option D} {src : List D} {f : D → D} (h : ∀ d ∈ src, elt d = some (f d) ∧ (f d).imm = true) : compL (fun _ => some true) elt src = some (src.map f) := by
  have := compL_filter (test := fun _ => some true) (p := fun _ => true) fun d hd => ⟨rfl, fun _ => h d hd⟩
  rw [List.filter_eq_self.mpr fun _ _ => rfl] at this
  exact this
end
end Mine
end
section
open PySem
set_option maxRecDepth 100000
set_option Elab.async false
namespace Mine
theorem nk_ff : (some NameKind.free == some NameKind.free) = true := rfl
theorem nk_lf : (some NameKind.local == some NameKind.free) = false := rfl
theorem nk_gf : (some NameKind.globalImplicit == some NameKind.free) = false := rfl
theorem nk_cc : (some NameKind.cell == some NameKind.cell) = true := rfl
theorem innerV_val (y : Str) (d : D) : innerV y (some (.val d)) = some (y, .val d) := rfl
theorem inner_eq (names around : Names) (ρ : Rho) : inner names around ρ = names.filterMap fun y =>
    if names.lookup y.1 == some .free && around.lookup y.1 == some .cell then innerV y.1 (ρ.lookup y.1) else none := rfl
theorem fm_cons {α β : Type} (f : α → Option β) (a : α) (l : List α) : (a :: l).filterMap f = (match f a with | none => l.filterMap f | some b => b :: l.filterMap f) := by
  rw [List.filterMap_cons]
  cases f a <;> rfl
theorem compL_nil (t : D → Option Bool) (e : D → Option D) : compL t e [] = some [] := rfl
theorem compL_c1 {t : D → Option Bool} {e : D → Option D} {d x : D} {r xs : List D} (h1 : t d = some true) (h2 : e d = some x) (h3 : compL t e r = some xs) (h4 : x.imm = true) : compL t e (d :: r) = some (x :: xs) := by
  show (t d).bind (fun b => consD b (e d) (compL t e r)) = _
  rw [h1, h2, h3]
  exact if_pos h4

theorem ints_ok {xs : List Int} : ints? (xs.map .int) = some xs := by
  induction xs with
  | nil => rfl
  | cons i r ih =>
    show (ints? (r.map .int)).map (i :: ·) = _
    rw [ih]; rfl
theorem bi_sum (ds : List D) : builtin? (Str.ofString "sum") ds = one (onL sumL) ds := (if_neg (by decide +kernel)).trans (if_pos rfl)
theorem sum_ok {xs : List Int} (h : ∀ i ∈ xs, -1000000000000 ≤ i ∧ i ≤ 1000000000000) (hl : xs.length ≤ 1000000) : builtin? (Str.ofString "sum") [.list (xs.map .int)] = some (.int xs.sum) := by
  have ha : xs.all (fun i => decide (-1000000000000 ≤ i) && decide (i ≤ 1000000000000)) = true := by
    rw [List.all_eq_true]
    intro i hi
    rw [decide_eq_true (h i hi).1, decide_eq_true (h i hi).2]; rfl
  rw [bi_sum]
  show (ints? (xs.map .int)).bind _ = _
  rw [ints_ok]
  exact if_pos (by rw [ha, decide_eq_true hl]; rfl)
theorem imm_ints (xs : List Int) : (xs.map D.int).all D.imm = true := by
  rw [List.all_eq_true]
  intro d hd
  obtain ⟨i, _, rfl⟩ := List.mem_map.mp hd
  rfl
theorem pickL_map {α β : Type} (f : α → β) (xs : List α) (lo hi st : Option Int) : pickL (xs.map f) lo hi st = (pickL xs lo hi st).map f := by
  unfold pickL
  rw [List.length_map, List.map_filterMap]
  congr 1
  funext i
  rw [List.getElem?_map]
theorem range5 : range? [.int 5] = some [.int 0, .int 1, .int 2, .int 3, .int 4] := by
  have : range? [.int 5] = some (rangeL 0 1 5) := rfl
  rw [this]; rfl
theorem comp5 {e : D → Option D} {a b c d f x y z u v : D} (h1 : e a = some x) (h2 : e b = some y) (h3 : e c = some z) (h4 : e d = some u) (h5 : e f = some v) (i1 : x.imm = true) (i2 : y.imm = true) (i3 : z.imm = true) (i4 : u.imm = true) (i5 : v.imm = true) : compL (fun _ => some true) e [a, b, c, d, f] = some [x, y, z, u, v] :=
  compL_c1 rfl h1 (compL_c1 rfl h2 (compL_c1 rfl h3 (compL_c1 rfl h4 (compL_c1 rfl h5 rfl i5) i4) i3) i2) i1
theorem compL_ints {e : D → Option D} {f : Int → Int} (h : ∀ i, e (.int i) = some (.int (f i))) (l : List Int) : compL (fun _ => some true) e (l.map .int) = some ((l.map f).map .int) := by
  rw [compL_map (f := fun d => match d with | .int i => .int (f i) | d => d)]
  · rw [List.map_map, List.map_map]; rfl
  · intro d hd
    obtain ⟨i, _, rfl⟩ := List.mem_map.mp hd
    exact ⟨h i, rfl⟩
theorem iterV_some {ds : List D} (h : ds.length ≤ cap) : iterV (some (.list ds)) = some ds := if_pos h
theorem iterN_list {ds : List D} (h : ds.length ≤ cap) : iterN (some (.list ds)) = some ds := if_pos h
theorem iterL_some {ds : List D} (h : ds.length ≤ cap) : iterL (some ds) = some ds := if_pos h
theorem sliceLst {l : List D} {lo hi st : D} {lo' hi' st' : Option Int} (h1 : part? lo = some lo') (h2 : part? hi = some hi') (h3 : part? st = some st') (h4 : st' ≠ some 0) (hc : l.length ≤ cap) : slice (.list l) lo hi st = some (.list (pickL l lo' hi' st')) := by
  exact (slice_of h1 h2 h3).trans (if_pos (c := (decide (l.length ≤ cap) && decide (st' ≠ some 0)) = true) (by rw [decide_eq_true hc, decide_eq_true h4]; rfl))
theorem pickL_le {α : Type} (xs : List α) (lo hi st : Option Int) : (pickL xs lo hi st).length ≤ xs.length := by
  have h := slicePick_size_le ((xs.map fun _ => Value.none).toArray) lo hi st
  have e : (slicePick ((xs.map fun _ => Value.none).toArray) lo hi st).toList = pickL (xs.map fun _ => Value.none) lo hi st := by
    unfold slicePick pickL
    simp
  have h2 : (pickL (xs.map fun _ => Value.none) lo hi st).length ≤ xs.length := by
    rw [← e]
    simpa using h
  rw [pickL_map, List.length_map] at h2
  exact h2
theorem le_cap {n : Nat} (h : n ≤ 1000) : n ≤ cap := Nat.le_trans h (by decide)
theorem listO_s {ds : List D} (h : ds.length ≤ 1000) : listO (some ds) = some (.list ds) := listO_some (le_cap h)
theorem tupO_s {ds : List D} (h : ds.length ≤ 1000) : tupO (some ds) = some (.tuple ds) := tupO_some (le_cap h)
end Mine
end
section
open PySem PySem.Builtin PySem.Builtin.Str
set_option maxRecDepth 100000
set_option Elab.async false
namespace Mine

/-- where a word lies: k places to be passed over -/
noncomputable def occs (sub : List Nat) : Nat → Nat → List Nat → List Nat
  | _, _, [] => []
  | i, k + 1, _ :: r => occs sub (i + 1) k r
  | i, 0, c :: r => if (c :: r).take sub.length = sub then i :: occs sub (i + 1) (sub.length - 1) r else occs sub (i + 1) 0 r

noncomputable def prep (pre : List Nat) : List (List Nat) → List (List Nat)
  | [] => []
  | h :: t => (pre ++ h) :: t
/-- the parts between -/
noncomputable def pt (sub : List Nat) : Nat → List Nat → List (List Nat)
  | _, [] => [[]]
  | k + 1, _ :: r => pt sub k r
  | 0, c :: r => if (c :: r).take sub.length = sub then [] :: pt sub (sub.length - 1) r else prep [c] (pt sub 0 r)

theorem pt_ne (sub : List Nat) : ∀ (k : Nat) (r : List Nat), ∃ h t, pt sub k r = h :: t
  | _, [] => ⟨_, _, rfl⟩
  | k + 1, _ :: r => pt_ne sub k r
  | 0, c :: r => by
    rw [pt]
    split
    · exact ⟨_, _, rfl⟩
    · obtain ⟨h, t, e⟩ := pt_ne sub 0 r
      rw [e]; exact ⟨_, _, rfl⟩
theorem prep_nil (x : List (List Nat)) : prep [] x = x := by cases x <;> rfl
theorem prep_prep (a b : List Nat) (x : List (List Nat)) : prep a (prep b x) = prep (a ++ b) x := by
  cases x with
  | nil => rfl
  | cons h t => simp [prep, List.append_assoc]

theorem sub_sl (l : List Nat) (a c : Nat) : strSub (sl l) a c = sl ((l.take c).drop a) := by
  rw [sl_eta (strSub (sl l) a c), StrLaws.strSub_toList, sl_cps, List.drop_take]

theorem parts_ok (l sub : List Nat) (hs : sub ≠ []) : ∀ (r : List Nat) (i k a : Nat), l.drop i = r → (k = 0 → a ≤ i) → (k ≠ 0 → a = i + k) → i + k ≤ l.length →
    StrLaws.partsFrom (sl l) sub.length a (occs sub i k r) = (prep ((l.take i).drop a) (pt sub k r)).map sl
  | [], i, k, a, hr, h0, h1, hk => by
    have hi : l.length ≤ i := by
      have := congrArg List.length hr
      rw [List.length_drop, List.length_nil] at this; omega
    have hil : i = l.length := by omega
    have hk0 : k = 0 := by omega
    subst hk0
    simp only [occs, pt, StrLaws.partsFrom, prep, List.append_nil, List.map_cons, List.map_nil, sub_sl, sl_len]
    rw [hil]
  | c :: r, i, k + 1, a, hr, h0, h1, hk => by
    have hr' : l.drop (i + 1) = r := by rw [← List.drop_drop, hr]; rfl
    have ha := h1 (by omega)
    have e1 : (l.take i).drop a = [] := List.drop_of_length_le (by rw [List.length_take]; omega)
    have e2 : (l.take (i + 1)).drop a = [] := List.drop_of_length_le (by rw [List.length_take]; omega)
    have ih := parts_ok l sub hs r (i + 1) k a hr' (fun h => by omega) (fun h => by omega) (by omega)
    rw [occs, pt, ih, e1, e2]
  | c :: r, i, 0, a, hr, h0, h1, hk => by
    have hr' : l.drop (i + 1) = r := by rw [← List.drop_drop, hr]; rfl
    have ha := h0 rfl
    have hlen : i < l.length := by
      have := congrArg List.length hr
      rw [List.length_drop, List.length_cons] at this; omega
    have hm : 0 < sub.length := List.length_pos_iff.mpr hs
    rw [occs, pt]
    split
    · rename_i hp
      have hfit : i + sub.length ≤ l.length := by
        have := congrArg List.length hp
        rw [List.length_take, ← hr, List.length_drop] at this; omega
      rw [StrLaws.partsFrom, sub_sl]
      have ih := parts_ok l sub hs r (i + 1) (sub.length - 1) (i + sub.length) hr' (fun h => by omega) (fun h => by omega) (by omega)
      have e2 : (l.take (i + 1)).drop (i + sub.length) = [] := List.drop_of_length_le (by rw [List.length_take]; omega)
      rw [ih, e2, prep_nil]
      simp [prep]
    · have ih := parts_ok l sub hs r (i + 1) 0 a hr' (fun _ => by omega) (fun h => absurd rfl h) (by omega)
      rw [ih, prep_prep]
      congr 2
      have hc : l[i]? = some c := by
        have := congrArg (fun x => x[0]?) hr
        simpa using this
      rw [List.take_add_one, hc, List.drop_append_of_le_length (by rw [List.length_take]; omega)]
      rfl

theorem occ_loop (l sub : List Nat) (hs : sub ≠ []) : ∀ (n i : Nat) (found : Array Nat) (free : Nat), i + n = l.length + 1 → found.size ≤ i →
    (forIn (List.range' i n) (found, free) (StrLaws.occBody (sl l) (sl sub) l.length (l.length + 1))).run.fst.toList = found.toList ++ occs sub i (free - i) (l.drop i)
  | 0, i, found, free, hn, hf => by
    have : l.drop i = [] := List.drop_of_length_le (by omega)
    rw [this]
    simp [occs]
  | n + 1, i, found, free, hn, hf => by
    rw [List.range'_succ, List.forIn_cons]
    have hn1 : i + 1 + n = l.length + 1 := by rw [Nat.add_right_comm]; exact hn
    have hm : 0 < sub.length := List.length_pos_iff.mpr hs
    have hat : ((i + (sl sub).length ≤ l.length) ∧ subAt (sl l) (sl sub) i = true) ↔ (l.drop i).take sub.length = sub := by
      rw [StrLaws.subAt_eq, sl_cps, sl_cps, sl_len, beq_iff_eq]
      constructor
      · exact fun h => h.2
      · intro h
        refine ⟨?_, h⟩
        have := congrArg List.length h
        rw [List.length_take, List.length_drop] at this; omega
    cases hd : l.drop i with
    | nil =>
      have hno : ¬ ((((found, free).fst.size < l.length + 1 ∧ (found, free).snd ≤ i) ∧ i + (sl sub).length ≤ l.length) ∧ subAt (sl l) (sl sub) i = true) := fun h => by
        have := hat.mp ⟨h.1.2, h.2⟩
        rw [hd] at this
        simp at this
        exact hs this
      unfold StrLaws.occBody
      rw [if_neg hno]
      have ih := occ_loop l sub hs n (i + 1) found free hn1 (Nat.le_succ_of_le hf)
      have hd' : l.drop (i + 1) = [] := by rw [← List.drop_drop, hd]; rfl
      rw [hd'] at ih
      simp only [occs, List.append_nil] at ih ⊢
      exact ih
    | cons c r =>
      have hd' : l.drop (i + 1) = r := by rw [← List.drop_drop, hd]; rfl
      have hil : i < l.length := by
        have := congrArg List.length hd
        rw [List.length_drop, List.length_cons] at this; omega
      by_cases hfree : free ≤ i
      · have hk : free - i = 0 := Nat.sub_eq_zero_of_le hfree
        rw [hk, occs]
        by_cases hp : (c :: r).take sub.length = sub
        · rw [if_pos hp]
          have hyes : (((found, free).fst.size < l.length + 1 ∧ (found, free).snd ≤ i) ∧ i + (sl sub).length ≤ l.length) ∧ subAt (sl l) (sl sub) i = true := by
            have := hat.mpr (by rw [hd]; exact hp)
            exact ⟨⟨⟨Nat.lt_of_le_of_lt hf (Nat.lt_succ_of_lt hil), hfree⟩, this.1⟩, this.2⟩
          unfold StrLaws.occBody
          rw [if_pos hyes]
          have ih := occ_loop l sub hs n (i + 1) (found.push i) (i + sub.length) hn1 (by rw [Array.size_push]; exact Nat.succ_le_succ hf)
          rw [hd', Nat.add_sub_add_left, Array.toList_push, List.append_assoc] at ih
          rw [sl_len]
          exact ih
        · rw [if_neg hp]
          have hno : ¬ ((((found, free).fst.size < l.length + 1 ∧ (found, free).snd ≤ i) ∧ i + (sl sub).length ≤ l.length) ∧ subAt (sl l) (sl sub) i = true) := fun h => hp (by
            have := hat.mp ⟨h.1.2, h.2⟩
            rw [hd] at this; exact this)
          unfold StrLaws.occBody
          rw [if_neg hno]
          have ih := occ_loop l sub hs n (i + 1) found free hn1 (Nat.le_succ_of_le hf)
          rw [hd', Nat.sub_eq_zero_of_le (Nat.le_succ_of_le hfree)] at ih
          exact ih
      · obtain ⟨k, hk⟩ : ∃ k, free - i = k + 1 := Nat.exists_eq_succ_of_ne_zero (Nat.sub_ne_zero_of_lt (Nat.lt_of_not_le hfree))
        rw [hk, occs]
        have hno : ¬ ((((found, free).fst.size < l.length + 1 ∧ (found, free).snd ≤ i) ∧ i + (sl sub).length ≤ l.length) ∧ subAt (sl l) (sl sub) i = true) := fun h => hfree h.1.1.2
        unfold StrLaws.occBody
        rw [if_neg hno]
        have ih := occ_loop l sub hs n (i + 1) found free hn1 (Nat.le_succ_of_le hf)
        rw [hd', Nat.sub_succ, hk, Nat.pred_succ] at ih
        exact ih

theorem occ_sl (l sub : List Nat) (hs : sub ≠ []) : occurrences (sl l) (sl sub) 0 (sl l).length ((sl l).length + 1) = occs sub 0 0 l := by
  rw [StrLaws.occ_eq, sl_len]
  have := occ_loop l sub hs (l.length + 1) 0 #[] 0 (Nat.zero_add _) (Nat.le_refl _)
  simpa using this
theorem parts_sl (l sub : List Nat) (hs : sub ≠ []) : partsBetween (sl l) (occurrences (sl l) (sl sub) 0 (sl l).length ((sl l).length + 1)) (sl sub).length = (pt sub 0 l).map sl := by
  rw [occ_sl l sub hs, StrLaws.partsBetween_eq, sl_len, parts_ok l sub hs l 0 0 0 rfl (fun _ => Nat.le_refl _) (fun h => absurd rfl h) (Nat.zero_le _)]
  simp [prep_nil]
/-- set together again -/
noncomputable def inter (z : List Nat) : List (List Nat) → List Nat
  | [] => []
  | [p] => p
  | p :: q :: r => p ++ z ++ inter z (q :: r)
theorem glued_sl (z : List Nat) : ∀ ps : List (List Nat), glued (sl z) (ps.map sl) = sl (inter z ps) := by
  intro ps
  rw [StrLaws.glued_eq_join]
  induction ps with
  | nil => rfl
  | cons p r ih =>
    cases r with
    | nil => rfl
    | cons q r =>
      show sl p ++ sl z ++ Str.join (sl z) ((q :: r).map sl) = _
      rw [ih, sl_app, sl_app]; rfl
theorem split_sl (l y : List Nat) (hy : y ≠ []) (hk : Builtin.Str.strKind (sl y) = 1) : Txt.split (sl l) (sl y) = (pt y 0 l).map sl := by
  have h2 : partsBetween (sl l) [] (sl y).length = [sl l] := by
    rw [StrLaws.partsBetween_eq]
    show [strSub (sl l) 0 (sl l).length] = _
    rw [StrLaws.sub_whole]
  have hemp : occurrences (sl l) (sl y) 0 (sl l).length ((sl l).length + 1) = [] → [sl l] = (pt y 0 l).map sl := fun h => by
    have h1 := parts_sl l y hy
    rw [h, h2] at h1
    exact h1
  have hkk : decide (Builtin.Str.strKind (sl l) < Builtin.Str.strKind (sl y)) = false := by
    rw [hk]
    unfold Builtin.Str.strKind
    split
    · rfl
    · split <;> rfl
  unfold Txt.split
  rw [hkk, Bool.or_false]
  split
  · rename_i h
    simp only [decide_eq_true_eq, sl_len] at h
    refine hemp ?_
    have h1 := parts_sl l y hy
    rw [occ_sl l y hy]
    have h3 : (pt y 0 l) = (pt y 0 l) := rfl
    -- too short for the word
    have : ∀ (r : List Nat) (i : Nat), r.length < y.length → occs y i 0 r = [] := by
      intro r
      induction r with
      | nil => intro i _; rfl
      | cons c r ih =>
        intro i hr
        rw [occs, if_neg, ih]
        · rw [List.length_cons] at hr; omega
        · intro hp
          have := congrArg List.length hp
          rw [List.length_take] at this
          omega
    exact this l 0 h
  · split
    · rename_i h
      exact hemp (List.isEmpty_iff.mp h)
    · exact parts_sl l y hy
theorem join_sl (z : List Nat) (ps : List (List Nat)) : Txt.join (sl z) (ps.map sl) = sl (inter z ps) := glued_sl z ps

end Mine
end
section
open PySem PySem.W PyProof.Rows
set_option maxRecDepth 100000
set_option Elab.async false
set_option maxHeartbeats 4000000
namespace Mine
noncomputable def fpar (p : Program) (k : Nat) : Arguments := match p.main.body[k]? with
  | some (.FunctionDef _ a _ _ _ _ _ _ _ _) => a
  | _ => ⟨[], [], none, [], [], none, []⟩
noncomputable def fscope (p : Program) (k : Nat) : Scope := match p.main.body[k]? with
  | some (.FunctionDef _ _ _ _ _ _ sc _ _ _) => sc
  | _ => { kind := .function, names := [], isGenerator := false, isCoroutine := false, more := [] }
theorem fnames_eq (p : Program) (k : Nat) : fnames p k = (fscope p k).names := by
  unfold fnames fscope
  rcases p.main.body[k]? with _ | st
  · rfl
  · cases st <;> rfl

noncomputable def runF (Φ : Fns) (P : Pol) (p : Program) (k : Nat) (ps : List Str) (ds : List D) : Option D :=
  if ds.length = ps.length then (match exs Φ P (fscope p k).names (fbody p k) (ps.zip (ds.map .val)) with
    | some (.ret d, _) => some d
    | _ => none) else none
theorem runF_some {Φ : Fns} {P : Pol} {p : Program} {k : Nat} {ps : List Str} {ds : List D} {d : D} {ρ' : Rho} (hl : ds.length = ps.length) (h : exs Φ P (fnames p k) (fbody p k) (ps.zip (ds.map .val)) = some (.ret d, ρ')) : runF Φ P p k ps ds = some d := by
  rw [fnames_eq] at h
  unfold runF
  rw [if_pos hl, h]

/-- a function's contract -/
noncomputable def FnOk1 (prog : Program) (w : World) (h₀ : Heap) (mg : Str → Option Value) (lvl : Nat) (f : Str) (F : List D → Option D) : Prop :=
  ∀ ds d, F ds = some d → (f == ("__debug__" : Str)) = false ∧ ∃ a, mg f = some (.ref a) ∧ (∃ o fd, h₀.get? a = some o ∧ o.data = .func fd) ∧
    ∀ (A : Around) (s : Shared) (Z : List Addr) (vs : List Value), Room A lvl → Ext h₀ s.heap → 0 ≤ s.toks → Zin Z s.heap → RepAll Z s.heap vs ds → Gv prog w A Z s (call (.ref a) vs) d
theorem fnsOk_of {prog : Program} {w : World} {h₀ : Heap} {mg : Str → Option Value} {lvl : Nat} {Φ : Fns} (h : ∀ f, FnOk1 prog w h₀ mg lvl f (Φ f)) : FnsOk prog w h₀ mg lvl Φ := fun f ds d e => h f ds d e
theorem FnOk1.le {prog : Program} {w : World} {h₀ : Heap} {mg : Str → Option Value} {n m : Nat} {f : Str} {F : List D → Option D} (h : FnOk1 prog w h₀ mg n f F) (hm : n ≤ m) : FnOk1 prog w h₀ mg m f F := fun ds d e => by
  obtain ⟨h1, a, h2, h3, h4⟩ := h ds d e
  exact ⟨h1, a, h2, h3, fun A s Z vs rm => h4 A s Z vs (rm.le hm)⟩
theorem fnOk1_none {prog : Program} {w : World} {h₀ : Heap} {mg : Str → Option Value} {lvl : Nat} {f : Str} : FnOk1 prog w h₀ mg lvl f (fun _ => none) := fun ds d e => nomatch e

/-- a def that stands in the written part -/
structure FnAt (K : Frag) (p : Program) (k : Nat) (name : Str) (a : Addr) (ps : List Str) : Prop where
  obj : ∃ o pm cd doc, K.lookup a = some o ∧ o.data = .func (Calls.docDef name (fpar p k) (fbody p k) (fscope p k) pm cd doc) ∧ codeIn K cd name = true
  bind : ∀ (pm cd doc : Value) (vs : List Value), vs.length = ps.length → bindArgs (Calls.docDef name (fpar p k) (fbody p k) (fscope p k) pm cd doc) ⟨vs, []⟩ = pure (ps.zip vs)
  par : parOk (fscope p k) ps = true
  nm : nsIn K mainGlobals name = some (some (.ref a))
  db : (name == ("__debug__" : Str)) = false

theorem fnOk_run {prog : Program} {w : World} {h₀ : Heap} {mg mb : Str → Option Value} {lvl : Nat} {Φ : Fns} {K : Frag} (KX : K.In h₀) (hlim : h₀.NoLimit) (G : Glo h₀ mg mb) (Fs : FnsOk prog w h₀ mg lvl Φ) (P : Pol) {p : Program} {k : Nat} {name : Str} {a : Addr} {ps : List Str} (H : FnAt K p k name a ps) :
    FnOk1 prog w h₀ mg (lvl + 1) name (runF Φ P p k ps) := by
  intro ds d e
  obtain ⟨o, pm, cd, doc, ho, hd, hc⟩ := H.obj
  have ho' := KX _ _ ho
  refine ⟨H.db, a, mg_of KX G.g H.nm, ⟨o, _, ho', hd⟩, fun A s Z vs rm old ht zi ra => ?_⟩
  unfold runF at e
  split at e
  · rename_i hl
    split at e
    · rename_i d' ρ' hr
      simp only [Option.some.injEq] at e
      subst e
      exact fn_gv G Fs ho' hd hlim (codeRec_of KX hc) (H.bind pm cd doc) H.par hl hr rm old ht zi ra
    · simp at e
  · simp at e

theorem bind1 {fd : FuncData} {x : Str} (h : ∀ v, bindArgs fd ⟨[v], []⟩ = pure [(x, v)]) (vs : List Value) (hv : vs.length = [x].length) : bindArgs fd ⟨vs, []⟩ = pure ([x].zip vs) := by
  obtain ⟨v, rfl⟩ := List.length_eq_one_iff.mp hv
  exact h v
theorem two_of {vs : List Value} {n : Nat} (h : vs.length = n + 1) : ∃ v us, vs = v :: us ∧ us.length = n := by
  cases vs with
  | nil => exact absurd h (Nat.succ_ne_zero n).symm
  | cons v us => exact ⟨v, us, rfl, Nat.succ.inj h⟩
theorem bind2 {fd : FuncData} {x y : Str} (h : ∀ v u, bindArgs fd ⟨[v, u], []⟩ = pure [(x, v), (y, u)]) (vs : List Value) (hv : vs.length = [x, y].length) : bindArgs fd ⟨vs, []⟩ = pure ([x, y].zip vs) := by
  obtain ⟨v, us, rfl, h1⟩ := two_of hv
  obtain ⟨u, rfl⟩ := List.length_eq_one_iff.mp h1
  exact h v u
theorem bind3 {fd : FuncData} {x y z : Str} (h : ∀ v u t, bindArgs fd ⟨[v, u, t], []⟩ = pure [(x, v), (y, u), (z, t)]) (vs : List Value) (hv : vs.length = [x, y, z].length) : bindArgs fd ⟨vs, []⟩ = pure ([x, y, z].zip vs) := by
  obtain ⟨v, us, rfl, h1⟩ := two_of hv
  obtain ⟨u, ts, rfl, h2⟩ := two_of h1
  obtain ⟨t, rfl⟩ := List.length_eq_one_iff.mp h2
  exact h v u t

theorem glo_of {K : Frag} {p : Program} {loose : List Str} {mean : ExcName → Option Value} {mg mb : Str → Option Value} {h₀ : Heap} (KX : K.In h₀) (T : Top p loose mean mg mb h₀)
    (hn : (("range" : Str) :: builtinNames).all (fun f => match nsIn K mainGlobals f with | some none => true | _ => false) = true) : Glo h₀ mg mb where
  g := (topRead_of T).g
  b := (topRead_of T).b
  bt := fun f hf => by
    have hm : f ∈ ("range" : Str) :: builtinNames := by
      rcases hf with h | h
      · exact .tail _ (List.contains_iff_mem.mp h)
      · subst h; exact .head _
    have h1 := List.all_eq_true.mp hn f hm
    have h2 : nsIn K mainGlobals f = some none := by
      revert h1
      rcases nsIn K mainGlobals f with _ | _ | _ <;> simp
    refine ⟨mg_none_of KX (topRead_of T).g h2, ?_⟩
    have hb : mb f = bootBuiltins f := (topRead_of T).builtins f (by
      rcases List.mem_cons.mp hm with h | h
      · subst h; decide +kernel
      · simp only [builtinNames, List.mem_cons, List.not_mem_nil, or_false] at h
        rcases h with h | h | h | h | h | h | h <;> subst h <;> decide +kernel)
    rw [hb]
    rcases List.mem_cons.mp hm with h | h
    · subst h; kernel_rfl
    · simp only [builtinNames, List.mem_cons, List.not_mem_nil, or_false] at h
      rcases h with h | h | h | h | h | h | h <;> subst h <;> kernel_rfl

noncomputable def fdOf (K : Frag) (a : Addr) : Value × Value × Value := match K.lookup a with
  | some ⟨_, _, .func fd, _⟩ => (fd.pyModule, fd.code, fd.doc)
  | _ => (.none, .none, .none)
theorem fnAt_mk {K : Frag} {p : Program} {k : Nat} {name : Str} {a : Addr} {ps : List Str}
    (h1 : K.lookup a = some { cls := .type "function", data := .func (Calls.docDef name (fpar p k) (fbody p k) (fscope p k) (fdOf K a).1 (fdOf K a).2.1 (fdOf K a).2.2) }) (h2 : codeIn K (fdOf K a).2.1 name = true)
    (h3 : ∀ (pm cd doc : Value) (vs : List Value), vs.length = ps.length → bindArgs (Calls.docDef name (fpar p k) (fbody p k) (fscope p k) pm cd doc) ⟨vs, []⟩ = pure (ps.zip vs))
    (h4 : parOk (fscope p k) ps = true) (h5 : nsIn K mainGlobals name = some (some (.ref a))) (h6 : (name == ("__debug__" : Str)) = false) : FnAt K p k name a ps :=
  ⟨⟨_, _, _, _, h1, rfl, h2⟩, h3, h4, h5, h6⟩
end Mine
end
section
open PySem PyProof.Rows
set_option maxRecDepth 100000
set_option Elab.async false
namespace Mine
theorem pa_pat : PlainAttrs "re.Pattern" :=
  ⟨⟨"object.__getattribute__", by rw [typeLookup_type, builtinLookup_eq_fast]; kernel_rfl, by decide +kernel⟩, by rw [typeLookup_type, builtinLookup_eq_fast]; kernel_rfl⟩
theorem slot_sub : Slot "re.Pattern" "sub" "re.Pattern.sub" :=
  .of (owner := "re.Pattern") (n := "sub") (by rw [typeLookup_type, builtinLookup_eq_fast]; kernel_rfl) (by decide +kernel) (by decide +kernel) (by decide +kernel)
    (by first | exact .inl (by decide +kernel) | exact .inr (by decide +kernel)) (by rw [isSubtype_type]; kernel_rfl)
theorem type_sub : typeOf (.builtin "re.Pattern.sub") = pure (.type "method_descriptor") := by show builtinType _ = _; rw [builtinType_eq_fast]; kernel_rfl
theorem entry_sub : entryFor table "re.Pattern.sub" = some Builtin.«re.Pattern.sub» := entryFor_of_tree (by kernel_rfl)
theorem entry_loop : entryFor table "re.Pattern.sub.loop" = some Builtin.«re.Pattern.sub.loop» := entryFor_of_tree (by kernel_rfl)
theorem owner_pat : Manifest.owners.lookup (String.ofList ['n', 'r', 'e', 't', 't', 'a', 'P', '.', 'e', 'r'].reverse) = some Manifest.sig_re_Pattern := by kernel_rfl
theorem args_sub (a b c : Value) : argsOk "re.Pattern.sub" ⟨[a, b, c], []⟩ := by
  unfold argsOk; rw [signature?_of (id := "re.Pattern.sub") (n := ['b', 'u', 's']) (o := ['n', 'r', 'e', 't', 't', 'a', 'P', '.', 'e', 'r']) (by kernel_rfl) owner_pat]; kernel_rfl
theorem plain_loop : plainId "re.Pattern.sub.loop" = true := by decide +kernel
end Mine
end
section
open PySem PySem.Sre PySem.Builtin.Re PyProof.Rows
set_option maxRecDepth 100000
set_option Elab.async false
set_option maxHeartbeats 4000000
namespace Mine

noncomputable def stepN : Nat → M → M
  | 0, m => m
  | n + 1, m => stepN n m.step
theorem stepN_done : ∀ (n : Nat) (m : M), m.outcome.isSome = true → stepN n m = m
  | 0, _, _ => rfl
  | n + 1, m, h => by
    have e : m.step = m := by unfold M.step; rw [if_pos h]
    rw [stepN, e]
    exact stepN_done n m h
theorem stepN_add : ∀ (a b : Nat) (m : M), stepN (a + b) m = stepN b (stepN a m)
  | 0, b, m => by rw [Nat.zero_add]; rfl
  | a + 1, b, m => by rw [Nat.add_right_comm]; exact stepN_add a b m.step
theorem runFor_eq : ∀ (n : Nat) (m : M), m.runFor n = stepN n m
  | 0, _ => rfl
  | n + 1, m => by
    by_cases h : m.outcome.isSome = true
    · rw [stepN_done _ _ h]
      unfold M.runFor
      rw [if_pos h]
    · unfold M.runFor
      rw [if_neg h]
      exact runFor_eq n m.step

section
variable {prog : Program} {w : World} {A : Around} {E : Value → Shared → Prop} {s : Shared}
theorem wp_drive : ∀ (turns N : Nat) (m : M) {Q : M → Shared → Prop}, (stepN N m).outcome.isSome = true → N ≤ 4 * turns → 0 < turns → Q (stepN N m) s → wpAny (model prog w) A (reDrive turns m) Q E s
  | 0, N, m, Q, _, _, h0, _ => absurd h0 (Nat.lt_irrefl 0)
  | turns + 1, N, m, Q, ho, hN, _, hQ => by
    unfold reDrive
    rw [show reTurnSteps = 4 from rfl, runFor_eq]
    by_cases h4 : (stepN 4 m).outcome.isSome = true
    · have e : stepN N m = stepN 4 m := by
        by_cases h : 4 ≤ N
        · obtain ⟨k, rfl⟩ := Nat.exists_eq_add_of_le h
          rw [stepN_add, stepN_done k _ h4]
        · obtain ⟨k, hk⟩ := Nat.exists_eq_add_of_le (show N ≤ 4 by omega)
          rw [hk, stepN_add, stepN_done k _ ho]
      rw [e] at hQ
      simp only [h4, if_true]
      exact wpAny_pure hQ
    · have h : 4 ≤ N := by
        rcases Nat.lt_or_ge N 4 with h | h
        · obtain ⟨k, hk⟩ := Nat.exists_eq_add_of_le (show N ≤ 4 by omega)
          rw [hk, stepN_add, stepN_done k _ ho] at h4
          exact absurd ho h4
        · exact h
      obtain ⟨k, rfl⟩ := Nat.exists_eq_add_of_le h
      rw [stepN_add] at ho hQ
      have ht : 0 < turns := by
        rcases Nat.eq_zero_or_pos turns with h0 | h0
        · have hk : k = 0 := by omega
          subst hk
          exact absurd ho h4
        · exact h0
      simp only [h4]
      exact wpAny_bind (wpAny_rule (wp_drive turns k _ ho (by omega) ht hQ))

theorem wp_end {m m' : M} {N : Nat} {Q : Option M → Shared → Prop} (h : stepN N m = m') (hN : N ≤ 2 ^ 64)
    (ho : (m'.outcome = some .matched ∧ Q (some m') s) ∨ (m'.outcome = some .failed ∧ Q none s)) : wpAny (model prog w) A (reRunToEnd m) Q E s := by
  have hs : m'.outcome.isSome = true := by rcases ho with ⟨e, _⟩ | ⟨e, _⟩ <;> rw [e] <;> rfl
  unfold reRunToEnd
  refine wpAny_bind (wp_drive (2 ^ 64) N m (by rw [h]; exact hs) (by omega) (by decide) ?_)
  rw [h]
  refine wpAny_bind (wpAny_forIn_list _ (fun _ _ s' => s' = s) _ (fun x rest b s' hI => ?_) (fun b s' hI => ?_) _ _ rfl)
  · subst hI
    split
    · exact wpAny_bind (wpAny_rule (wpAny_pure rfl))
    · exact wpAny_pure rfl
  · subst hI
    rcases ho with ⟨e, hq⟩ | ⟨e, hq⟩
    · rw [e]; exact wpAny_pure hq
    · rw [e]; exact wpAny_pure hq
end

-- the first pattern: a dot at a line's start
noncomputable def c1 : Array Nat := #[14, 4, 0, 1, 1, 6, 1, 16, 46, 1]
noncomputable abbrev A1 (t : Array Nat) (n s : Nat) (first : Bool) (seen : Sre.Seen) : M :=
  { code := c1, text := t, lim := n, start := s, lastStart := n, pc := 5, pos := s, handed := s, outermost := first, marks := #[],
    frames := [{ wait := .nextStart, pc := 5, pos := s, outermost := first }], weight := 1, seen }
noncomputable abbrev F1 (t : Array Nat) (n s : Nat) (first : Bool) (seen : Sre.Seen) (pc : Nat) : M := { A1 t n s first seen with pc := pc, answer := some false }
theorem a1_1 (t : Array Nat) (n s : Nat) (first : Bool) (seen : Sre.Seen) (h : (s == 0 || t.getD (s - 1) 0 == 10) = b) : (A1 t n s first seen).step = if b then { A1 t n s first ((seen.add 6).add 44) with pc := 7 } else F1 t n s first ((seen.add 6).add 44) 5 := by
  subst h
  kernel_rfl
theorem a1_2 (t : Array Nat) (n s : Nat) (first : Bool) (seen : Sre.Seen) (pc : Nat) : (F1 t n s first seen pc).step = if s < n then A1 t n (s + 1) false seen else { F1 t n s first seen 5 with frames := [], weight := 0 } := by
  kernel_rfl
theorem a1_3 (t : Array Nat) (n s : Nat) (first : Bool) (seen : Sre.Seen) : ({ F1 t n s first seen 5 with frames := [], weight := 0 } : M).step = { F1 t n s first seen 5 with frames := [], weight := 0, outcome := some .failed } := by
  kernel_rfl
theorem a1_4 (t : Array Nat) (n s : Nat) (first : Bool) (seen : Sre.Seen) (b : Bool) (h : (t.getD s 0 == 46) = b) (hn : s < n) : ({ A1 t n s first seen with pc := 7 } : M).step = if b then { A1 t n s first (seen.add 16) with pc := 9, pos := s + 1 } else F1 t n s first (seen.add 16) 7 := by
  have e : ({ A1 t n s first seen with pc := 7 } : M).step = M.exec { A1 t n s first seen with pc := 7 } := by kernel_rfl
  rw [e]
  unfold M.exec
  have e2 : ops[M.word { A1 t n s first seen with pc := 7 } 0]? = some .LITERAL := by kernel_rfl
  rw [e2]
  dsimp only
  rw [if_neg (show ¬ s ≥ n by omega)]
  have e3 : ∀ sn, accepts c1 7 (t.getD s 0) sn = .ok (t.getD s 0 == 46, sn) := fun sn => by kernel_rfl
  rw [e3, h]
  cases b <;> rfl
theorem a1_4' (t : Array Nat) (n s : Nat) (first : Bool) (seen : Sre.Seen) (hn : n ≤ s) : ({ A1 t n s first seen with pc := 7 } : M).step = F1 t n s first (seen.add 16) 7 := by
  have e : ({ A1 t n s first seen with pc := 7 } : M).step = M.exec { A1 t n s first seen with pc := 7 } := by kernel_rfl
  rw [e]
  unfold M.exec
  have e2 : ops[M.word { A1 t n s first seen with pc := 7 } 0]? = some .LITERAL := by kernel_rfl
  rw [e2]
  dsimp only
  rw [if_pos (show s ≥ n by omega)]
  rfl
theorem a1_5 (t : Array Nat) (n s : Nat) (first : Bool) (seen : Sre.Seen) : ({ A1 t n s first seen with pc := 9, pos := s + 1 } : M).step = { A1 t n s first (seen.add 1) with pc := 9, pos := s + 1, handed := s + 1, answer := some true } := by
  cases first <;> kernel_rfl
theorem a1_6 (t : Array Nat) (n s : Nat) (first : Bool) (seen : Sre.Seen) : (stepN 2 { A1 t n s first seen with pc := 9, pos := s + 1, handed := s + 1, answer := some true }).outcome = some .matched := by
  kernel_rfl

/-- the next dot at a line's start -/
noncomputable def dotAt (t : Array Nat) (s : Nat) : Bool := (s == 0 || t.getD (s - 1) 0 == 10) && decide (s < t.size) && (t.getD s 0 == 46)
noncomputable def find1 (t : Array Nat) : Nat → Nat → Option Nat
  | 0, _ => none
  | k + 1, s => if dotAt t s then some s else find1 t k (s + 1)

theorem turn1 (t : Array Nat) (s : Nat) (first : Bool) (seen : Sre.Seen) (hs : s ≤ t.size) : ∃ N ≤ 5, ∃ seen',
    (dotAt t s = true ∧ ∃ m', stepN N (A1 t t.size s first seen) = m' ∧ m'.outcome = some .matched ∧ m'.start = s ∧ m'.handed = s + 1) ∨
    (dotAt t s = false ∧ ((s < t.size ∧ stepN N (A1 t t.size s first seen) = A1 t t.size (s + 1) false seen') ∨ (s = t.size ∧ ∃ m', stepN N (A1 t t.size s first seen) = m' ∧ m'.outcome = some .failed))) := by
  have fail : ∀ (seen' : Sre.Seen) (pc : Nat), ∃ N ≤ 2, (s < t.size ∧ stepN N (F1 t t.size s first seen' pc) = A1 t t.size (s + 1) false seen') ∨ (s = t.size ∧ ∃ m', stepN N (F1 t t.size s first seen' pc) = m' ∧ m'.outcome = some .failed) := by
    intro seen' pc
    by_cases h : s < t.size
    · exact ⟨1, by decide, .inl ⟨h, by rw [stepN, a1_2, if_pos h]; rfl⟩⟩
    · refine ⟨2, by decide, .inr ⟨by omega, _, rfl, ?_⟩⟩
      rw [stepN, a1_2, if_neg h, stepN, a1_3]; rfl
  cases hb : (s == 0 || t.getD (s - 1) 0 == 10) with
  | false =>
    obtain ⟨N, hN, h⟩ := fail ((seen.add 6).add 44) 5
    have hd : dotAt t s = false := by unfold dotAt; rw [hb]; rfl
    have e1 : (A1 t t.size s first seen).step = F1 t t.size s first ((seen.add 6).add 44) 5 := by rw [a1_1 _ _ _ _ _ hb]; rfl
    refine ⟨N + 1, by omega, (seen.add 6).add 44, .inr ⟨hd, ?_⟩⟩
    rw [stepN, e1]
    exact h
  | true =>
    have e1 : (A1 t t.size s first seen).step = { A1 t t.size s first ((seen.add 6).add 44) with pc := 7 } := by rw [a1_1 _ _ _ _ _ hb]; rfl
    by_cases hs' : s < t.size
    · cases hc : (t.getD s 0 == 46) with
      | false =>
        obtain ⟨N, hN, h⟩ := fail (((seen.add 6).add 44).add 16) 7
        have hd : dotAt t s = false := by unfold dotAt; rw [hc, Bool.and_false]
        refine ⟨N + 2, by omega, ((seen.add 6).add 44).add 16, .inr ⟨hd, ?_⟩⟩
        rw [stepN, stepN, e1, a1_4 _ _ _ _ _ _ hc hs']
        exact h
      | true =>
        have hd : dotAt t s = true := by unfold dotAt; rw [hb, hc, decide_eq_true hs']; rfl
        have e5 : stepN 5 (A1 t t.size s first seen) = stepN 2 { A1 t t.size s first ((((seen.add 6).add 44).add 16).add 1) with pc := 9, pos := s + 1, handed := s + 1, answer := some true } := by
          show stepN 2 (((A1 t t.size s first seen).step).step).step = _
          rw [e1, a1_4 _ _ _ _ _ _ hc hs', if_pos rfl, a1_5]
        refine ⟨5, by decide, seen, .inl ⟨hd, _, rfl, ?_, ?_, ?_⟩⟩ <;> rw [e5]
        · exact a1_6 ..
        · rfl
        · rfl
    · obtain ⟨N, hN, h⟩ := fail (((seen.add 6).add 44).add 16) 7
      have hd : dotAt t s = false := by unfold dotAt; rw [decide_eq_false hs', Bool.and_false, Bool.false_and]
      refine ⟨N + 2, by omega, ((seen.add 6).add 44).add 16, .inr ⟨hd, ?_⟩⟩
      rw [stepN, stepN, e1, a1_4' _ _ _ _ _ (by omega)]
      exact h

theorem search1 (t : Array Nat) : ∀ (k s : Nat) (first : Bool) (seen : Sre.Seen), s + k = t.size + 1 → s ≤ t.size → ∃ N ≤ 5 * k, ∃ m', stepN N (A1 t t.size s first seen) = m' ∧
    ((∃ i, find1 t k s = some i ∧ m'.outcome = some .matched ∧ m'.start = i ∧ m'.handed = i + 1) ∨ (find1 t k s = none ∧ m'.outcome = some .failed))
  | 0, s, first, seen, h, hs => by omega
  | k + 1, s, first, seen, h, hs => by
    obtain ⟨N, hN, seen', ht⟩ := turn1 t s first seen hs
    rcases ht with ⟨hd, m', e, h1, h2, h3⟩ | ⟨hd, ⟨hlt, e⟩ | ⟨heq, m', e, h1⟩⟩
    · exact ⟨N, by omega, m', e, .inl ⟨s, by rw [find1, if_pos hd], h1, h2, h3⟩⟩
    · obtain ⟨N', hN', m', e', hr⟩ := search1 t k (s + 1) false seen' (by omega) (by omega)
      refine ⟨N + N', by omega, m', by rw [stepN_add, e, e'], ?_⟩
      have hf : find1 t (k + 1) s = find1 t k (s + 1) := by rw [find1, hd]; rfl
      rw [hf]
      exact hr
    · have hk : k = 0 := by omega
      subst hk
      exact ⟨N, by omega, m', e, .inr ⟨by rw [find1, hd]; rfl, h1⟩⟩
theorem start1 (t : Array Nat) (s : Nat) (h : s + 1 ≤ t.size) : ∃ seen, Sre.forSearch c1 t 0 s t.size false = A1 t t.size s true seen := by
  refine ⟨({} : Sre.Seen).add 14, ?_⟩
  unfold Sre.forSearch
  have e : (Sre.header c1) = (1, 5) := by kernel_rfl
  simp only [e]
  rw [if_neg (by simp; omega)]
  kernel_rfl
theorem start1' (t : Array Nat) (s : Nat) (h : t.size ≤ s) : (stepN 1 (Sre.forSearch c1 t 0 s t.size false)).outcome = some .failed := by
  unfold Sre.forSearch
  have e : (Sre.header c1) = (1, 5) := by kernel_rfl
  simp only [e]
  rw [if_pos (by simp; omega)]
  kernel_rfl
end Mine
end
section
open PySem PySem.Sre PySem.Builtin.Re PyProof.Rows
set_option maxRecDepth 100000
set_option Elab.async false
set_option maxHeartbeats 4000000
namespace Mine
-- the second pattern: a line's end
noncomputable def c2 : Array Nat := #[14, 9, 4, 1, 2, 16, 10, 16, 13, 0, 7, 7, 16, 13, 16, 10, 15, 18, 5, 16, 10, 15, 13, 11, 16, 13, 5, 5, 0, 16, 10, 1, 15, 2, 0, 1]
noncomputable abbrev L2 (t : Array Nat) (n s p pos h : Nat) (out : Bool) (fr : List Sre.Frame) (wt : Nat) (seen : Sre.Seen) : M :=
  { code := c2, text := t, lim := n, start := s, lastStart := n, pc := p, pos := pos, handed := h, outermost := out, marks := #[], frames := fr, weight := wt, seen }
noncomputable abbrev nS (s : Nat) (first : Bool) : Sre.Frame := { wait := .nextStart, pc := 10, pos := s, outermost := first }
noncomputable abbrev nB (s : Nat) (first : Bool) (pc : Nat) : Sre.Frame := { wait := .nextBranch, pc := pc, pos := s, outermost := first }
noncomputable abbrev lN (s : Nat) (first : Bool) : Sre.Frame := { wait := .lookNot, pc := 26, pos := s + 1, outermost := first }

section
variable (t : Array Nat) (n s pos h : Nat) (out : Bool) (fr : List Sre.Frame) (wt : Nat) (seen : Sre.Seen)
theorem lit_exec {p : Nat} (h3 : p < c2.size) : (L2 t n s p pos h out fr wt seen).step = M.exec (L2 t n s p pos h out fr wt seen) := by
  unfold M.step
  simp only [Option.isSome_none, Bool.false_eq_true, if_false]
  rw [if_pos h3]
theorem lit_op {p : Nat} (h1 : c2.getD p 0 = 16) : ops[M.word (L2 t n s p pos h out fr wt seen) 0]? = some .LITERAL := by
  have : M.word (L2 t n s p pos h out fr wt seen) 0 = 16 := h1
  rw [this]; rfl
theorem lit_b {p ch : Nat} (b : Bool) (h1 : c2.getD p 0 = 16) (h2 : c2.getD (p + 1) 0 = ch) (h3 : p < c2.size) (hb : (t.getD pos 0 == ch) = b) (hn : pos < n) :
    (L2 t n s p pos h out fr wt seen).step = if b then L2 t n s (p + 2) (pos + 1) h out fr wt (seen.add 16) else { L2 t n s p pos h out fr wt (seen.add 16) with answer := some false } := by
  rw [lit_exec _ _ _ _ _ _ _ _ _ h3]
  unfold M.exec
  rw [lit_op _ _ _ _ _ _ _ _ _ h1]
  dsimp only
  rw [if_neg (show ¬ pos ≥ n by omega)]
  have hw : M.word (L2 t n s p pos h out fr wt seen) 0 = 16 := h1
  rw [hw]
  have e3 : ∀ sn, accepts c2 p (t.getD pos 0) sn = .ok (t.getD pos 0 == ch, sn) := fun sn => by
    unfold accepts
    rw [h1, h2]; rfl
  have e4 : itemWidth c2 p = 2 := by
    unfold itemWidth
    rw [h1]; rfl
  rw [e3, hb, e4]
  cases b <;> rfl
theorem lit_end {p : Nat} (h1 : c2.getD p 0 = 16) (h3 : p < c2.size) (hn : n ≤ pos) :
    (L2 t n s p pos h out fr wt seen).step = { L2 t n s p pos h out fr wt (seen.add 16) with answer := some false } := by
  rw [lit_exec _ _ _ _ _ _ _ _ _ h3]
  unfold M.exec
  rw [lit_op _ _ _ _ _ _ _ _ _ h1]
  dsimp only
  rw [if_pos (show pos ≥ n by omega)]
  have hw : M.word (L2 t n s p pos h out fr wt seen) 0 = 16 := h1
  rw [hw]; rfl
theorem br_1 (first : Bool) : (L2 t n s 10 s s first [nS s first] 1 seen).step = L2 t n s 12 s s first [nB s first 11, nS s first] 2 (seen.add 7) := by kernel_rfl
theorem br_2 (first : Bool) (p q hh : Nat) : ({ L2 t n s p q hh first [nB s first 11, nS s first] 2 seen with answer := some false } : M).step = L2 t n s 19 s s first [nB s first 18, nS s first] 2 seen := by kernel_rfl
theorem br_3 (first : Bool) (p q hh : Nat) : ({ L2 t n s p q hh first [nB s first 18, nS s first] 2 seen with answer := some false } : M).step = L2 t n s 24 s s first [nB s first 23, nS s first] 2 seen := by kernel_rfl
theorem jp_16 (q : Nat) : (L2 t n s 16 q h out fr wt seen).step = L2 t n s 35 q h out fr wt (seen.add 15) := by kernel_rfl
theorem jp_21 (q : Nat) : (L2 t n s 21 q h out fr wt seen).step = L2 t n s 35 q h out fr wt (seen.add 15) := by kernel_rfl
theorem jp_32 (q : Nat) : (L2 t n s 32 q h out fr wt seen).step = L2 t n s 35 q h out fr wt (seen.add 15) := by kernel_rfl
theorem an_26 (first : Bool) (fb : Nat) : (L2 t n s 26 (s + 1) h first [nB s first fb, nS s first] 2 seen).step = L2 t n s 29 (s + 1) (s + 1) false [lN s first, nB s first fb, nS s first] 3 (seen.add 5) := by kernel_rfl
theorem an_no (first : Bool) (fb q : Nat) : ({ L2 t n s 29 q h false [lN s first, nB s first fb, nS s first] 3 seen with answer := some false } : M).step = L2 t n s 32 (s + 1) h first [nB s first fb, nS s first] 2 seen := by kernel_rfl
theorem su_35 (q : Nat) : (L2 t n s 35 q h out fr wt seen).step = { L2 t n s 35 q q out fr wt (seen.add 1) with answer := some true } := by cases out <;> kernel_rfl
theorem fin2 (first : Bool) (fb q hh : Nat) : (stepN 3 { L2 t n s 35 q hh first [nB s first fb, nS s first] 2 seen with answer := some true }).outcome = some .matched ∧
    (stepN 3 { L2 t n s 35 q hh first [nB s first fb, nS s first] 2 seen with answer := some true }).start = s ∧ (stepN 3 { L2 t n s 35 q hh first [nB s first fb, nS s first] 2 seen with answer := some true }).handed = hh := ⟨by kernel_rfl, by kernel_rfl, by kernel_rfl⟩
end

/-- how long the line's end at s is -/
noncomputable def nlW (t : Array Nat) (s : Nat) : Nat := if t.getD s 0 = 13 ∧ s + 1 < t.size ∧ t.getD (s + 1) 0 = 10 then 2 else 1
theorem g12 : c2.getD 12 0 = 16 := by decide
theorem g13 : c2.getD 13 0 = 13 := by decide
theorem g14 : c2.getD 14 0 = 16 := by decide
theorem g15 : c2.getD 15 0 = 10 := by decide
theorem g19 : c2.getD 19 0 = 16 := by decide
theorem g20 : c2.getD 20 0 = 10 := by decide
theorem g24 : c2.getD 24 0 = 16 := by decide
theorem g25 : c2.getD 25 0 = 13 := by decide
theorem g29 : c2.getD 29 0 = 16 := by decide
theorem g30 : c2.getD 30 0 = 10 := by decide

theorem turn2 (t : Array Nat) (s : Nat) (first : Bool) (seen : Sre.Seen) (hs : s < t.size) (hc : t.getD s 0 = 10 ∨ t.getD s 0 = 13) :
    ∃ N ≤ 20, ∃ m', stepN N (L2 t t.size s 10 s s first [nS s first] 1 seen) = m' ∧ m'.outcome = some .matched ∧ m'.start = s ∧ m'.handed = s + nlW t s := by
  -- the branch that holds leads to the end
  have tail : ∀ (fb q : Nat) (sn : Sre.Seen), ∃ m', stepN 4 (L2 t t.size s 35 q s first [nB s first fb, nS s first] 2 sn) = m' ∧ m'.outcome = some .matched ∧ m'.start = s ∧ m'.handed = q := fun fb q sn => by
    refine ⟨_, rfl, ?_⟩
    have e : stepN 4 (L2 t t.size s 35 q s first [nB s first fb, nS s first] 2 sn) = stepN 3 (L2 t t.size s 35 q s first [nB s first fb, nS s first] 2 sn).step := rfl
    rw [e, su_35]
    exact fin2 ..
  have tail' : ∀ (fb q hh : Nat) (sn : Sre.Seen), ∃ m', stepN 4 (L2 t t.size s 35 q hh first [nB s first fb, nS s first] 2 sn) = m' ∧ m'.outcome = some .matched ∧ m'.start = s ∧ m'.handed = q := fun fb q hh sn => by
    refine ⟨_, rfl, ?_⟩
    have e : stepN 4 (L2 t t.size s 35 q hh first [nB s first fb, nS s first] 2 sn) = stepN 3 (L2 t t.size s 35 q hh first [nB s first fb, nS s first] 2 sn).step := rfl
    rw [e, su_35]
    exact fin2 ..
  rcases hc with hc | hc
  · -- a line feed
    have b13 : (t.getD s 0 == 13) = false := by rw [hc]; rfl
    have b10 : (t.getD s 0 == 10) = true := by rw [hc]; rfl
    have hw : nlW t s = 1 := by unfold nlW; rw [if_neg]; rw [hc]; simp
    obtain ⟨m', e, h⟩ := tail 18 (s + 1) ((((seen.add 7).add 16).add 16).add 15)
    refine ⟨9, by decide, m', ?_, by rw [hw]; exact h⟩
    rw [show (9 : Nat) = 5 + 4 from rfl, stepN_add]
    have : stepN 5 (L2 t t.size s 10 s s first [nS s first] 1 seen) = L2 t t.size s 35 (s + 1) s first [nB s first 18, nS s first] 2 ((((seen.add 7).add 16).add 16).add 15) := by
      show (((((L2 t t.size s 10 s s first [nS s first] 1 seen).step).step).step).step).step = _
      rw [br_1, lit_b _ _ _ _ _ _ _ _ _ false g12 g13 (by decide) b13 hs]
      simp only [Bool.false_eq_true, if_false]
      rw [br_2, lit_b _ _ _ _ _ _ _ _ _ true g19 g20 (by decide) b10 hs, if_pos rfl, jp_21]
    rw [this]
    exact e
  · have b13 : (t.getD s 0 == 13) = true := by rw [hc]; rfl
    have b10 : (t.getD s 0 == 10) = false := by rw [hc]; rfl
    by_cases hnx : s + 1 < t.size ∧ t.getD (s + 1) 0 = 10
    · have hw : nlW t s = 2 := by unfold nlW; rw [if_pos ⟨hc, hnx⟩]
      have b' : (t.getD (s + 1) 0 == 10) = true := by rw [hnx.2]; rfl
      obtain ⟨m', e, h⟩ := tail 11 (s + 2) ((((seen.add 7).add 16).add 16).add 15)
      refine ⟨8, by decide, m', ?_, by rw [hw]; exact h⟩
      rw [show (8 : Nat) = 4 + 4 from rfl, stepN_add]
      have : stepN 4 (L2 t t.size s 10 s s first [nS s first] 1 seen) = L2 t t.size s 35 (s + 2) s first [nB s first 11, nS s first] 2 ((((seen.add 7).add 16).add 16).add 15) := by
        show ((((L2 t t.size s 10 s s first [nS s first] 1 seen).step).step).step).step = _
        rw [br_1, lit_b _ _ _ _ _ _ _ _ _ true g12 g13 (by decide) b13 hs, if_pos rfl, lit_b _ _ _ _ _ _ _ _ _ true g14 g15 (by decide) b' hnx.1, if_pos rfl, jp_16]
      rw [this]
      exact e
    · have hw : nlW t s = 1 := by unfold nlW; rw [if_neg]; exact fun q => hnx q.2
      -- the first branch's second sign fails
      have f14 : ∀ sn, (L2 t t.size s 14 (s + 1) s first [nB s first 11, nS s first] 2 sn).step = { L2 t t.size s 14 (s + 1) s first [nB s first 11, nS s first] 2 (sn.add 16) with answer := some false } := fun sn => by
        by_cases hlt : s + 1 < t.size
        · have b' : (t.getD (s + 1) 0 == 10) = false := by
            have : ¬ t.getD (s + 1) 0 = 10 := fun q => hnx ⟨hlt, q⟩
            simpa using this
          rw [lit_b _ _ _ _ _ _ _ _ _ false g14 g15 (by decide) b' hlt]; rfl
        · exact lit_end _ _ _ _ _ _ _ _ _ g14 (by decide) (by omega)
      have f29 : ∀ sn, (L2 t t.size s 29 (s + 1) (s + 1) false [lN s first, nB s first 23, nS s first] 3 sn).step = { L2 t t.size s 29 (s + 1) (s + 1) false [lN s first, nB s first 23, nS s first] 3 (sn.add 16) with answer := some false } := fun sn => by
        by_cases hlt : s + 1 < t.size
        · have b' : (t.getD (s + 1) 0 == 10) = false := by
            have : ¬ t.getD (s + 1) 0 = 10 := fun q => hnx ⟨hlt, q⟩
            simpa using this
          rw [lit_b _ _ _ _ _ _ _ _ _ false g29 g30 (by decide) b' hlt]; rfl
        · exact lit_end _ _ _ _ _ _ _ _ _ g29 (by decide) (by omega)
      obtain ⟨m', e, h⟩ := tail' 23 (s + 1) (s + 1) ((((((((seen.add 7).add 16).add 16).add 16).add 16).add 5).add 16).add 15)
      refine ⟨15, by decide, m', ?_, by rw [hw]; exact h⟩
      rw [show (15 : Nat) = 11 + 4 from rfl, stepN_add]
      have : stepN 11 (L2 t t.size s 10 s s first [nS s first] 1 seen) = L2 t t.size s 35 (s + 1) (s + 1) first [nB s first 23, nS s first] 2 ((((((((seen.add 7).add 16).add 16).add 16).add 16).add 5).add 16).add 15) := by
        show ((((((((((L2 t t.size s 10 s s first [nS s first] 1 seen).step).step).step).step).step).step).step).step).step).step.step = _
        rw [br_1, lit_b _ _ _ _ _ _ _ _ _ true g12 g13 (by decide) b13 hs, if_pos rfl, f14, br_2, lit_b _ _ _ _ _ _ _ _ _ false g19 g20 (by decide) b10 hs]
        simp only [Bool.false_eq_true, if_false]
        rw [br_3, lit_b _ _ _ _ _ _ _ _ _ true g24 g25 (by decide) b13 hs, if_pos rfl, an_26, f29, an_no, jp_32]
      rw [this]
      exact e

theorem set_ok (c : Nat) (seen : Sre.Seen) : ∃ seen', inSet c2 c c2.size 5 true seen = .ok (c == 10 || c == 13, seen') := by
  have i1 : inSet c2 c c2.size 5 true seen = if c == 10 then .ok (true, seen.add 16) else inSet c2 c 35 7 true (seen.add 16) := by kernel_rfl
  have i2 : ∀ sn, inSet c2 c 35 7 true sn = if c == 13 then .ok (true, sn.add 16) else inSet c2 c 34 9 true (sn.add 16) := fun sn => by kernel_rfl
  have i3 : ∀ sn, inSet c2 c 34 9 true sn = .ok (false, sn.add 0) := fun sn => by kernel_rfl
  rw [i1, i2, i3]
  by_cases h1 : (c == 10) = true
  · exact ⟨_, by rw [h1, if_pos rfl]; rfl⟩
  · rw [if_neg h1]
    rw [Bool.not_eq_true] at h1
    by_cases h2 : (c == 13) = true
    · exact ⟨_, by rw [h2, if_pos rfl, h1]; rfl⟩
    · rw [if_neg h2]
      rw [Bool.not_eq_true] at h2
      exact ⟨_, by rw [h1, h2]; rfl⟩
noncomputable def nlAt (t : Array Nat) (s : Nat) : Bool := t.getD s 0 == 10 || t.getD s 0 == 13
noncomputable def find2 (t : Array Nat) : Nat → Nat → Option Nat
  | 0, _ => none
  | k + 1, s => if s ≥ t.size then none else if nlAt t s then some s else find2 t k (s + 1)
theorem find2_some {t : Array Nat} : ∀ {k s i : Nat}, find2 t k s = some i → i < t.size ∧ s ≤ i ∧ nlAt t i = true
  | 0, _, _, h => nomatch h
  | k + 1, s, i, h => by
    rw [find2] at h
    split at h
    · cases h
    · split at h
      · rename_i h1 h2
        cases h
        exact ⟨by omega, Nat.le_refl _, h2⟩
      · obtain ⟨a, b, c⟩ := find2_some h
        exact ⟨a, by omega, c⟩
theorem admit (m : M) (t : Array Nat) (h1 : m.code = c2) (h2 : m.text = t) (h3 : m.lim = t.size) : ∀ (k s : Nat) (seen : Sre.Seen), ∃ seen', M.admitted m k s seen = .ok (find2 t k s, seen')
  | 0, s, seen => ⟨seen, rfl⟩
  | k + 1, s, seen => by
    unfold M.admitted
    rw [h1, h2, h3, find2]
    by_cases hs : s ≥ t.size
    · rw [if_pos hs, if_pos hs]; exact ⟨_, rfl⟩
    · rw [if_neg hs, if_neg hs]
      obtain ⟨sn, e⟩ := set_ok (t.getD s 0) seen
      rw [e]
      cases hb : nlAt t s with
      | true =>
        have : (t.getD s 0 == 10 || t.getD s 0 == 13) = true := hb
        rw [this]
        exact ⟨_, rfl⟩
      | false =>
        have : (t.getD s 0 == 10 || t.getD s 0 == 13) = false := hb
        rw [this]
        exact admit m t h1 h2 h3 k (s + 1) sn
theorem find2_end (t : Array Nat) (k s : Nat) (h : t.size ≤ s) : find2 t k s = none := by
  cases k with
  | zero => rfl
  | succ k => rw [find2, if_pos (by omega)]
noncomputable abbrev U2 (t : Array Nat) (s ls : Nat) : M := { code := c2, text := t, lim := t.size, start := s, lastStart := ls, pc := 10, pos := s, handed := s, marks := #[], seen := ({} : Sre.Seen).add 14 }
theorem for2 (t : Array Nat) (s : Nat) : Sre.forSearch c2 t 0 s t.size false = if (decide (s > t.size) || decide (t.size - s < 1)) = true then (U2 t s 0).say false else M.attemptFrom (U2 t s t.size) s true := by kernel_rfl
theorem start2 (t : Array Nat) (s : Nat) : (∃ i seen, find2 t (t.size + 1 - s) s = some i ∧ Sre.forSearch c2 t 0 s t.size false = L2 t t.size i 10 i i true [nS i true] 1 seen) ∨
    (find2 t (t.size + 1 - s) s = none ∧ (stepN 1 (Sre.forSearch c2 t 0 s t.size false)).outcome = some .failed) := by
  rw [for2]
  by_cases hs : s + 1 ≤ t.size
  · rw [if_neg (by simp; omega)]
    unfold M.attemptFrom
    have h4 : (U2 t s t.size).hasFirstSet = true := by kernel_rfl
    rw [h4]
    obtain ⟨seen', ha⟩ := admit (U2 t s t.size) t rfl rfl rfl (t.size + 1 - s) s (U2 t s t.size).seen
    have e : (!true) = true ↔ False := by decide
    rw [if_neg (by decide)]
    rw [show (U2 t s t.size).lim = t.size from rfl, ha]
    cases hf : find2 t (t.size + 1 - s) s with
    | none =>
      right
      exact ⟨rfl, by kernel_rfl⟩
    | some i =>
      left
      exact ⟨i, seen', rfl, by kernel_rfl⟩
  · rw [if_pos (by simp; omega)]
    right
    exact ⟨find2_end _ _ _ (by omega), by kernel_rfl⟩
end Mine
end
section
open PySem PySem.Sre PySem.Builtin.Re PyProof.Rows
set_option maxRecDepth 100000
set_option Elab.async false
set_option maxHeartbeats 4000000
namespace Mine

structure PatAt (h : Heap) (p : Addr) (c : Array Nat) : Prop where
  obj : ∃ o vs ct t6 t2, h.get? p = some o ∧ o.cls = .type "re.Pattern" ∧ o.dict = none ∧ o.data = .fields vs ∧ vs.getD 6 .none = .int 0 t6 ∧ vs.getD 2 .none = .int 0 t2 ∧ vs.getD 5 .none = .ref ct ∧
    ∃ oc items n, h.get? ct = some oc ∧ oc.data = .seq items n ∧ (items.map reRawOf).map (·.toNat) = c
theorem PatAt.ext {h h' : Heap} {p : Addr} {c : Array Nat} (x : PatAt h p c) (e : Ext h h') : PatAt h' p c := by
  obtain ⟨o, vs, ct, t6, t2, h1, h2, h3, h4, h5, h6, h7, oc, items, n, h8, h9⟩ := x.obj
  exact ⟨o, vs, ct, t6, t2, e _ _ h1, h2, h3, h4, h5, h6, h7, oc, items, n, e _ _ h8, h9⟩

section
variable {prog : Program} {w : World} {A : Around} {E : Value → Shared → Prop} {s : Shared}

theorem push_plain {l : Addr} {items : Array Value} {x : Value} {Q : Unit → Shared → Prop} (hl : s.heap.PlainList l items) (hsz : items.size ≤ sizeLine)
    (hQ : ∀ h', h'.PlainList l (items.push x) → Heap.SameBut l s.heap h' → Q () { s with heap := h' }) : wpAny (model prog w) A (updateSeq l (·.push x)) Q E s := by
  obtain ⟨n, ho⟩ := hl
  refine wpAny_updateSeq ho rfl (hQ _ ⟨n + 1, ?_⟩ (Heap.SameBut.update ..))
  rw [Heap.get?_update_self _ ho (by rw [Obj.mapSeq_push_plain]; rfl), Obj.mapSeq_push_plain]

theorem wp_whole {p : Addr} {c : Array Nat} {x : Str} {tx : Tok} {Q : ReTarget → Shared → Prop} (PA : PatAt s.heap p c)
    (h : Q { pattern := .ref p, string := .str x tx, code := c, text := x.cps, kind := 0, groups := 0, pos := 0, lim := x.cps.size } s) : wpAny (model prog w) A (reWholeTarget (.ref p) (.str x tx)) Q E s := by
  obtain ⟨o, vs, ct, t6, t2, h1, h2, h3, h4, h5, h6, h7, oc, items, n, h8, h9, h10⟩ := PA.obj
  unfold reWholeTarget
  refine wpAny_bind (wpAny_fieldsOf h1 h4 ?_)
  have e1 : reTextOf (.str x tx) = pure (x.cps, 0) := rfl
  rw [e1]
  refine wpAny_bind (wpAny_pure ?_)
  simp only [h5, h6, h7]
  have e2 : reRawNat (.int 0 t6) = 0 := rfl
  have e3 : reRawNat (.int 0 t2) = 0 := rfl
  rw [e2, e3]
  have e4 : reNoCollectionInside (.str x tx) 0 = pure () := rfl
  rw [e4]
  refine wpAny_bind (wpAny_pure ?_)
  unfold reRawItems
  refine wpAny_bind (wpAny_bind (wpAny_seqItems h8 h9 (wpAny_pure ?_)))
  rw [show (some items).getD #[] = items from rfl, h10]
  exact wpAny_pure h
end

/-- the pieces that a substitution makes -/
noncomputable def pcs (fnd : Array Nat → Nat → Option (Nat × Nat)) (rep : Str) (t : Array Nat) : Nat → Nat → List Str
  | 0, _ => []
  | k + 1, st => match fnd t st with
    | none => if st < t.size then [⟨t.extract st t.size⟩] else []
    | some (a, b) => (if st < a then [⟨t.extract st a⟩] else []) ++ rep :: pcs fnd rep t k b

noncomputable def FndOk (fnd : Array Nat → Nat → Option (Nat × Nat)) : Prop := ∀ t st a b, fnd t st = some (a, b) → st ≤ a ∧ a < b ∧ b ≤ t.size
noncomputable def NextOk (prog : Program) (w : World) (c : Array Nat) (fnd : Array Nat → Nat → Option (Nat × Nat)) : Prop :=
  ∀ (A : Around) (E : Value → Shared → Prop) (s : Shared) (t : Array Nat) (st : Nat) (Q : Option M → Shared → Prop), t.size ≤ 1000000 → st ≤ t.size →
    (fnd t st = none → Q none s) → (∀ a b m, fnd t st = some (a, b) → m.start = a → m.handed = b → Q (some m) s) → wpAny (model prog w) A (reRunToEnd (Sre.forSearch c t 0 st t.size false)) Q E s

theorem pcs_arith {r T B A S x : Nat} (h0 : S ≤ A) (h1 : A < B) (h3 : B ≤ T) (i1 : x ≤ (r + 1) * (T - B)) : A - S + (r + x) ≤ (r + 1) * (T - S) := by
  have e : T - S = (T - B) + ((B - A) + (A - S)) := by omega
  have hm2 : r + 1 ≤ (r + 1) * (B - A) := Nat.le_mul_of_pos_right _ (by omega)
  have hm4 : A - S ≤ (r + 1) * (A - S) := Nat.le_mul_of_pos_left _ (Nat.succ_pos r)
  rw [e, Nat.mul_add, Nat.mul_add]
  omega
theorem pcs_ar2 {T B A S n m : Nat} (h0 : S ≤ A) (h1 : A < B) (h3 : B ≤ T) (hm : m ≤ 1) (i2 : n ≤ 2 * (T - B) + 1) : m + (n + 1) ≤ 2 * (T - S) + 1 := by omega
theorem pcs_one (r d : Nat) : d ≤ (r + 1) * d := Nat.le_mul_of_pos_left _ (Nat.succ_pos r)
theorem pcs_pre (t : Array Nat) {a b st : Nat} (hab : a < b) (h3 : b ≤ t.size) (h0 : st ≤ a) : ((if st < a then [(⟨t.extract st a⟩ : Str)] else []).map (·.length)).sum = a - st ∧ (if st < a then [(⟨t.extract st a⟩ : Str)] else []).length ≤ 1 := by
  have hm : min a t.size = a := Nat.min_eq_left (Nat.le_trans (Nat.le_of_lt hab) h3)
  split
  · refine ⟨?_, Nat.le_refl _⟩
    rw [List.map_singleton, List.sum_singleton]
    show (t.extract st a).size = _
    rw [Array.size_extract, hm]
  · rename_i h
    exact ⟨(Nat.sub_eq_zero_of_le (Nat.le_of_not_lt h)).symm, Nat.zero_le _⟩
theorem pcs_sum {fnd : Array Nat → Nat → Option (Nat × Nat)} (hf : FndOk fnd) (rep : Str) (t : Array Nat) : ∀ (k st : Nat), st ≤ t.size → ((pcs fnd rep t k st).map (·.length)).sum ≤ (rep.length + 1) * (t.size - st) ∧ (pcs fnd rep t k st).length ≤ 2 * (t.size - st) + 1
  | 0, st, h => ⟨Nat.zero_le _, Nat.zero_le _⟩
  | k + 1, st, h => by
    rw [pcs]
    split
    · split
      · rw [List.map_singleton, List.sum_singleton]
        have : (Str.mk (t.extract st t.size)).length = t.size - st := by simp [Str.length]
        rw [this]
        exact ⟨pcs_one _ _, Nat.succ_le_succ (Nat.zero_le _)⟩
      · exact ⟨Nat.zero_le _, Nat.zero_le _⟩
    · rename_i a b hab
      obtain ⟨h1, h2, h3⟩ := hf _ _ _ _ hab
      obtain ⟨i1, i2⟩ := pcs_sum hf rep t k b h3
      have hpre := pcs_pre t h2 h3 h1
      rw [List.map_append, List.sum_append, List.map_cons, List.sum_cons, hpre.1, List.length_append, List.length_cons]
      exact ⟨pcs_arith h1 h2 h3 i1, pcs_ar2 h1 h2 h3 hpre.2 i2⟩
end Mine
end
section
open PySem PySem.Sre PySem.Builtin PySem.Builtin.Re PyProof.Rows
set_option maxRecDepth 100000
set_option Elab.async false
set_option maxHeartbeats 4000000
namespace Mine

theorem strs_push {vs : List Value} {ps : List Str} (h : StrsAre vs ps) {x : Str} {t : Tok} : StrsAre (vs ++ [.str x t]) (ps ++ [x]) := by
  induction h with
  | nil => exact .cons _ _ .nil
  | cons a b r ih => exact .cons _ _ ih
theorem strs_len {vs : List Value} {ps : List Str} (h : StrsAre vs ps) : vs.length = ps.length := by
  induction h with
  | nil => rfl
  | cons a b r ih => simp [ih]
theorem rep_strs {Z : List Addr} {h : Heap} {vs : List Value} {ps : List Str} (x : StrsAre vs ps) : RepAll Z h vs (ps.map .str) := by
  induction x with
  | nil => exact .nil
  | cons _ _ _ ih => exact .cons (.str _ _) ih

section
variable {prog : Program} {w : World}

theorem join_call {A : Around} {s : Shared} {l : Addr} {items : List Value} {ps : List Str} {j : Str} {tj : Tok} (hl : s.heap.PlainList l items.toArray) (hs : StrsAre items ps) (hj : j = sl []) (hsum : (ps.map (·.length)).sum ≤ 16000000) :
    ∀ E, wpAny (model prog w) A (call (.builtin "str.join") [.str j tj, .ref l]) (fun v s' => Kp s s' ∧ ∃ t, v = .str (Txt.join (sl []) ps) t) E s := by
  intro E
  subst hj
  have e : method? (Str.ofString "join") (.str (sl [])) [.list (ps.map .str)] = some (.str (Txt.join (sl []) ps)) := by
    refine (if_pos rfl).trans ?_
    show (strs? (ps.map .str)).bind _ = _
    rw [strs?_map]
    refine if_pos ?_
    rw [sl_len, List.length_nil, Nat.mul_zero]
    omega
  have r0 : Rep [] s.heap (.str (sl []) tj) (.str (sl [])) := .str _ _
  have r1 : RepAll [] s.heap [.ref l] [.list (ps.map .str)] := .cons (.list (by simp) hl.isList (rep_strs hs)) .nil
  have := method_ok (prog := prog) (w := w) (A := A) (Z := []) (fun _ h => nomatch h) r0 r1 e E
  refine wpAny_mono this (fun v s' h => ⟨h.1, ?_⟩) fun _ _ x => x
  cases h.2 with
  | str _ t => exact ⟨t, rfl⟩

theorem sub_loop {c : Array Nat} {fnd : Array Nat → Nat → Option (Nat × Nat)} (hnext : NextOk prog w c fnd) (hf : FndOk fnd) {p : Addr} {x rep : Str} {tx tr : Tok} (hx : x.cps.size ≤ 100000) (hrep : rep.length ≤ 10) {l : Addr} {h₀ : Heap} :
    ∀ (k st : Nat) {A : Around} {s : Shared} {n : Int} {items : List Value} {ps : List Str} {E : Value → Shared → Prop} {Q : Value → Shared → Prop}, st ≤ x.cps.size → x.cps.size + 1 ≤ k + st → PatAt s.heap p c → s.heap.PlainList l items.toArray → h₀.get? l = none → Ext h₀ s.heap →
      StrsAre items ps → (∃ B : Nat, ps.length ≤ B ∧ B + 2 * (x.cps.size - st) ≤ 200000) → ((ps ++ pcs fnd rep x.cps k st).map (·.length)).sum ≤ 1200000 → PatAt h₀ p c →
      (∀ v s' t, v = .str (Txt.join (sl []) (ps ++ pcs fnd rep x.cps k st)) t → Ext h₀ s'.heap → (∃ h tk, s' = { s with heap := h, toks := tk }) → Q v s') →
      codeAny (model prog w) A (.builtin "re.Pattern.sub.loop" ⟨[.ref p, .str x tx, .str rep tr, rawInt 0, rawInt 0, rawInt n, rawInt st, rawInt st, .bool false, .ref l, .bool false], []⟩)
        (fun r s' => match r with | .ok (.ret v) => Q v s' | .ok _ => False | .error e => E e s') s
  | 0, st, A, s, n, items, ps, E, Q, hst, hk, _, _, _, _, _, _, _, _, _ => by omega
  | k + 1, st, A, s, n, items, ps, E, Q, hst, hk, PA, hl, hl0, ext, hs, hB, hsum, PA0, hQ => by
    have hfit : ∀ a b, (Str.mk (x.cps.extract a b)).length ≤ sizeLine := fun a b => by
      have : (Str.mk (x.cps.extract a b)).length = min b x.cps.size - a := by simp [Str.length]
      rw [this, ← capL]; exact Nat.le_trans (by omega : _ ≤ 1000000) (by decide)
    have hln : items.toArray.size ≤ sizeLine ∧ items.length + 2 ≤ 300000 := by
      obtain ⟨B, h1, h2⟩ := hB
      have := strs_len hs
      refine ⟨?_, by omega⟩
      rw [List.size_toArray, ← capL]; exact Nat.le_trans (by omega : _ ≤ 1000000) (by decide)
    refine codeAny_builtin entry_loop ?_
    rw [Around.under_plainId plain_loop]
    unfold «re.Pattern.sub.loop»
    show wpAny _ _ (reWholeTarget (.ref p) (.str x tx) >>= _) _ _ _
    refine wpAny_bind (wp_whole PA ?_)
    dsimp only
    simp only [beq_self_eq_true, if_true, Bool.false_eq_true, if_false, bne_self_eq_false, Bool.false_and, Int.toNat_natCast]
    refine wpAny_bind (wpAny_of_eq (a := ()) rfl ?_)
    unfold reNextFound
    refine wpAny_bind (hnext A.in1 _ s x.cps st _ (by omega) hst (fun hnone => ?_) fun a b m hab hma hmb => ?_)
    · have hp : pcs fnd rep x.cps (k + 1) st = if st < x.cps.size then [⟨x.cps.extract st x.cps.size⟩] else [] := by rw [pcs, hnone]
      rw [hp] at hQ hsum
      by_cases hlt : st < x.cps.size
      · rw [if_pos hlt] at hQ hsum
        simp only [hlt, if_true]
        show wpAny _ _ (mkStr ⟨x.cps.extract st x.cps.size⟩ >>= _) _ _ _
        refine wpAny_bind (wpAny_mkStr ?_ (hfit _ _))
        refine wpAny_bind (push_plain hl hln.1 fun h' hl' hs' => ?_)
        have hl2 : h'.PlainList l (items ++ [Value.str ⟨x.cps.extract st x.cps.size⟩ s.toks]).toArray := by
          have : (items ++ [Value.str ⟨x.cps.extract st x.cps.size⟩ s.toks]).toArray = items.toArray.push (.str ⟨x.cps.extract st x.cps.size⟩ s.toks) := by simp
          rw [this]; exact hl'
        have hs2 := strs_push hs (x := ⟨x.cps.extract st x.cps.size⟩) (t := s.toks)
        have ext2 : Ext h₀ h' := fun b o e => (hs'.2 b (fun q => by rw [q, hl0] at e; cases e)).trans (ext b o e)
        show wpAny _ _ (mkStr ⟨x.cps.extract 0 0⟩ >>= _) _ _ _
        refine wpAny_bind (wpAny_mkStr ?_ (hfit _ _))
        obtain ⟨nn, ho2⟩ := id hl2
        refine wpAny_bind (wpAny_seqItems ho2 rfl ?_)
        rw [if_neg (by simp)]
        refine wpAny_bind (wpAny_mono (join_call (s := { s with heap := h', toks := s.toks + 1 + 1 }) (E := _) hl2 hs2 (by simp [sl]) (Nat.le_trans hsum (by decide))) (fun v s' hv => ?_) fun _ _ x => x)
        obtain ⟨kp, t', rfl⟩ := hv
        refine wpAny_pure (hQ _ _ t' rfl (ext2.trans kp.ext) ?_)
        obtain ⟨h3, t3, rfl, _⟩ := kp
        exact ⟨h3, t3, rfl⟩
      · rw [if_neg hlt] at hQ hsum
        simp only [hlt, if_false]
        show wpAny _ _ (mkStr ⟨x.cps.extract 0 0⟩ >>= _) _ _ _
        refine wpAny_bind (wpAny_mkStr ?_ (hfit _ _))
        obtain ⟨nn, ho2⟩ := id hl
        refine wpAny_bind (wpAny_seqItems ho2 rfl ?_)
        simp only [List.append_nil] at hQ hsum
        by_cases hem : items = []
        · subst hem
          cases hs
          rw [if_pos (show ((some (#[] : Array Value)).getD #[]).isEmpty = true from rfl)]
          refine wpAny_bind (wpAny_pure ?_)
          refine wpAny_pure (hQ _ _ s.toks ?_ ext ⟨s.heap, s.toks + 1, rfl⟩)
          have : (Str.mk (x.cps.extract 0 0)) = Txt.join (sl []) [] := by
            rw [show Txt.join (sl []) ([] : List Str) = sl [] from join_sl [] []]
            simp [sl]
          rw [this]
        · rw [if_neg (by simpa using hem)]
          refine wpAny_bind (wpAny_mono (join_call (s := { s with toks := s.toks + 1 }) (E := _) hl hs (by simp [sl]) (Nat.le_trans hsum (by decide))) (fun v s' hv => ?_) fun _ _ x => x)
          obtain ⟨kp, t', rfl⟩ := hv
          refine wpAny_pure (hQ _ _ t' rfl (ext.trans kp.ext) ?_)
          obtain ⟨h3, t3, rfl, _⟩ := kp
          exact ⟨h3, t3, rfl⟩
    · obtain ⟨h1, h2, h3⟩ := hf _ _ _ _ hab
      have hp : pcs fnd rep x.cps (k + 1) st = (if st < a then [⟨x.cps.extract st a⟩] else []) ++ rep :: pcs fnd rep x.cps k b := by rw [pcs, hab]
      have hne : (m.handed == m.start) = false := by rw [hma, hmb]; simp; omega
      have hnn : (Value.str rep tr != Value.none) = true := rfl
      rw [hp] at hQ hsum
      obtain ⟨B, hB1, hB2⟩ := hB
      have rest : ∀ (s' : Shared) (items' : List Value) (ps' : List Str), ps' = ps ++ (if st < a then [⟨x.cps.extract st a⟩] else []) → s'.heap.PlainList l items'.toArray → StrsAre items' ps' → Ext h₀ s'.heap → (∃ h tk, s' = { s with heap := h, toks := tk }) →
          wpAny (model prog w) A.in1 (updateSeq l (fun y => y.push (.str rep tr)) >>= fun _ => again (.builtin "re.Pattern.sub.loop" ⟨[.ref p, .str x tx, .str rep tr, rawInt 0, rawInt 0, rawInt (n + 1), rawInt m.handed, rawInt m.handed, .bool (m.handed == m.start), .ref l, .bool false], []⟩))
            (fun fin s' => match fin with
              | .done f => (match (Except.ok f : Result) with | .ok (.ret v) => Q v s' | .ok _ => False | .error e => E e s')
              | .again c' => c'.quiet = true ∧ codeAny (model prog w) A c' (fun r s' => match r with | .ok (.ret v) => Q v s' | .ok _ => False | .error e => E e s') s') (fun e s' => E e s') s' := by
        intro s' items' ps' hps' hl' hs' ext' hsh
        have hlen' : ps'.length ≤ B + 1 := by
          rw [hps', List.length_append]
          split <;> simp <;> omega
        have := strs_len hs'
        refine wpAny_bind (push_plain hl' (by rw [List.size_toArray, ← capL]; exact Nat.le_trans (by omega : _ ≤ 1000000) (by decide)) fun h' hl2 hs2 => ?_)
        refine wpAny_pure ⟨plainId_quiet plain_loop _, ?_⟩
        rw [hne, hmb]
        have hl3 : h'.PlainList l (items' ++ [Value.str rep tr]).toArray := by
          have : (items' ++ [Value.str rep tr]).toArray = items'.toArray.push (.str rep tr) := by simp
          rw [this]; exact hl2
        have ext2 : Ext h₀ h' := fun b o e => (hs2.2 b (fun q => by rw [q, hl0] at e; cases e)).trans (ext' b o e)
        have hcat : (ps' ++ [rep]) ++ pcs fnd rep x.cps k b = ps ++ ((if st < a then [⟨x.cps.extract st a⟩] else []) ++ rep :: pcs fnd rep x.cps k b) := by
          rw [hps']; simp [List.append_assoc]
        refine sub_loop hnext hf hx hrep k b (A := A) (s := { s' with heap := h' }) h3 (by omega) (PA0.ext ext2) hl3 hl0 ext2 (strs_push hs') ⟨B + 2, by simp only [List.length_append, List.length_cons, List.length_nil]; omega, by omega⟩ (by rw [hcat]; exact hsum) PA0 fun v s'' t hv e'' hsh'' => ?_
        refine hQ v s'' t (by rw [hv, hcat]) e'' ?_
        obtain ⟨h4, t4, rfl⟩ := hsh
        obtain ⟨h5, t5, rfl⟩ := hsh''
        exact ⟨h5, t5, rfl⟩
      dsimp only
      rw [hma]
      by_cases hlt : st < a
      · simp only [hlt, if_true]
        show wpAny _ _ (mkStr ⟨x.cps.extract st a⟩ >>= _) _ _ _
        refine wpAny_bind (wpAny_mkStr ?_ (hfit _ _))
        refine wpAny_bind (push_plain hl hln.1 fun h' hl' hs' => ?_)
        refine wpAny_bind (wpAny_pure ?_)
        rw [if_pos hnn]
        have hl2 : h'.PlainList l (items ++ [Value.str ⟨x.cps.extract st a⟩ s.toks]).toArray := by
          have : (items ++ [Value.str ⟨x.cps.extract st a⟩ s.toks]).toArray = items.toArray.push (.str ⟨x.cps.extract st a⟩ s.toks) := by simp
          rw [this]; exact hl'
        have := rest { s with heap := h', toks := s.toks + 1 } _ _ (by rw [if_pos hlt]) hl2 (strs_push hs) (fun b o e => (hs'.2 b (fun q => by rw [q, hl0] at e; cases e)).trans (ext b o e)) ⟨_, _, rfl⟩
        rw [hma] at this
        exact this
      · simp only [hlt, if_false]
        refine wpAny_bind (wpAny_pure ?_)
        rw [if_pos hnn]
        have := rest s items ps (by rw [if_neg hlt, List.append_nil]) hl hs ext ⟨s.heap, s.toks, rfl⟩
        rw [hma] at this
        exact this
end
end Mine
end
section
open PySem PySem.Sre PySem.Builtin PySem.Builtin.Re PyProof.Rows
set_option maxRecDepth 100000
set_option Elab.async false
set_option maxHeartbeats 4000000
namespace Mine
theorem nocall_str : typeLookup (.type "str") "__call__" = pure none := by rw [typeLookup_type, builtinLookup_eq_fast]; kernel_rfl
theorem named_ok (a b : Value) : reNamed "re.Pattern.sub" "sub" ["repl", "string", "count"] 2 [a, b] [] = pure [some a, some b, none] := by rfl
section
variable {prog : Program} {w : World}
theorem sub_call {c : Array Nat} {fnd : Array Nat → Nat → Option (Nat × Nat)} (hnext : NextOk prog w c fnd) (hf : FndOk fnd) {p : Addr} {x rep : Str} {tx tr : Tok} (hx : x.cps.size ≤ 90000) (hrep : rep.length ≤ 10) (hnb : rep.cps.contains 92 = false)
    {A : Around} {s : Shared} (PA : PatAt s.heap p c) : ∀ E, wpAny (model prog w) A (call (.builtin "re.Pattern.sub") [.ref p, .str rep tr, .str x tx]) (fun v s' => Kp s s' ∧ ∃ t, v = .str (Txt.join (sl []) (pcs fnd rep x.cps (x.cps.size + 1) 0)) t) E s := by
  intro E
  have hT : s.TypeIs (.ref p) "re.Pattern" := by
    obtain ⟨o, vs, ct, t6, t2, h1, h2, h3, _⟩ := PA.obj
    exact ⟨o, h1, h2⟩
  refine wpAny_call (codeAny_call_builtin slot_sub.plain entry_sub (slot_sub.check _ _ _ _ _ _ _ _ hT (args_sub _ _ _) ?_))
  unfold «re.Pattern.sub» reSubstitute
  dsimp only
  rw [named_ok]
  refine wpAny_bind (wpAny_pure ?_)
  dsimp only
  refine wpAny_bind (wpAny_pure ?_)
  refine wpAny_bind (wpAny_specialOf (typeIs_str _ _ _) nocall_str ?_)
  simp only [Option.isSome_none, Bool.false_eq_true, if_false]
  refine wpAny_bind (wpAny_of_eq (a := some rep) rfl ?_)
  dsimp only
  rw [hnb]
  refine wpAny_bind (wpAny_pure ?_)
  simp only [Bool.not_false, if_true]
  refine wpAny_bind (wpAny_pure ?_)
  dsimp only
  refine wpAny_bind (wpAny_holding (wp_whole PA ?_))
  rw [if_neg (by decide)]
  refine wpAny_bind (wpAny_newObj_type ?_ (by size_fits))
  refine wpAny_pure ⟨plainId_quiet plain_loop _, ?_⟩
  have hk : Ext s.heap (s.heap.push { cls := .type "list", data := .seq ([] : List Value).toArray }) := Ext.push _ _
  have hno : s.heap.get? s.heap.objs.size = none := get_none_of_ext (.refl _)
  have hyes : (s.heap.push { cls := .type "list", data := .seq ([] : List Value).toArray }).get? s.heap.objs.size = some { cls := .type "list", data := .seq ([] : List Value).toArray } := Heap.get?_push_size _ rfl
  obtain ⟨hs1, hs2⟩ := pcs_sum hf rep x.cps (x.cps.size + 1) 0 (Nat.zero_le _)
  refine sub_loop hnext hf (by omega) hrep (x.cps.size + 1) 0 (A := A) (s := { s with heap := s.heap.push { cls := .type "list", data := .seq ([] : List Value).toArray } }) (items := []) (ps := []) (Nat.zero_le _) (by omega) (PA.ext hk) ⟨_, hyes⟩ hno hk .nil ⟨0, Nat.le_refl _, by omega⟩ ?_ PA fun v s' t hv e hsh => ?_
  · rw [List.nil_append]
    refine Nat.le_trans hs1 ?_
    have : (rep.length + 1) * (x.cps.size - 0) ≤ 11 * 90000 := Nat.mul_le_mul (by omega) (by omega)
    omega
  · obtain ⟨h', tk, rfl⟩ := hsh
    exact ⟨⟨h', tk, rfl, e⟩, t, hv⟩
end

-- the two patterns
noncomputable def f1 (t : Array Nat) (st : Nat) : Option (Nat × Nat) := (find1 t (t.size + 1 - st) st).map fun i => (i, i + 1)
noncomputable def f2 (t : Array Nat) (st : Nat) : Option (Nat × Nat) := (find2 t (t.size + 1 - st) st).map fun i => (i, i + nlW t i)
theorem find1_some {t : Array Nat} : ∀ {k s i : Nat}, find1 t k s = some i → i < t.size ∧ s ≤ i ∧ dotAt t i = true
  | 0, _, _, h => nomatch h
  | k + 1, s, i, h => by
    rw [find1] at h
    split at h
    · rename_i h2
      cases h
      refine ⟨?_, Nat.le_refl _, h2⟩
      unfold dotAt at h2
      simp only [Bool.and_eq_true, decide_eq_true_eq] at h2
      exact h2.1.2
    · obtain ⟨a, b, c⟩ := find1_some h
      exact ⟨a, by omega, c⟩
theorem f1_ok : FndOk f1 := fun t st a b h => by
  unfold f1 at h
  simp only [Option.map_eq_some_iff, Prod.mk.injEq] at h
  obtain ⟨i, hi, rfl, rfl⟩ := h
  obtain ⟨h1, h2, _⟩ := find1_some hi
  exact ⟨h2, by omega, by omega⟩
theorem f2_ok : FndOk f2 := fun t st a b h => by
  unfold f2 at h
  simp only [Option.map_eq_some_iff, Prod.mk.injEq] at h
  obtain ⟨i, hi, rfl, rfl⟩ := h
  obtain ⟨h1, h2, _⟩ := find2_some hi
  have : 1 ≤ nlW t i ∧ (i + nlW t i ≤ t.size) := by
    unfold nlW
    by_cases h : t.getD i 0 = 13 ∧ i + 1 < t.size ∧ t.getD (i + 1) 0 = 10
    · rw [if_pos h]; exact ⟨by decide, by omega⟩
    · rw [if_neg h]; exact ⟨by decide, by omega⟩
  exact ⟨h2, by omega, this.2⟩
theorem next1 (prog : Program) (w : World) : NextOk prog w c1 f1 := by
  intro A E s t st Q hsz hst hnone hsome
  by_cases h : st + 1 ≤ t.size
  · obtain ⟨seen, e⟩ := start1 t st h
    rw [e]
    obtain ⟨N, hN, m', hm, hr⟩ := search1 t (t.size + 1 - st) st true seen (by omega) hst
    refine wp_end hm (Nat.le_trans hN (Nat.le_trans (by omega : _ ≤ 10000000) (by decide))) ?_
    rcases hr with ⟨i, hi, h1, h2, h3⟩ | ⟨hi, h1⟩
    · exact .inl ⟨h1, hsome i (i + 1) m' (by unfold f1; rw [hi]; rfl) h2 h3⟩
    · exact .inr ⟨h1, hnone (by unfold f1; rw [hi]; rfl)⟩
  · have he : st = t.size := by omega
    subst he
    refine wp_end (N := 1) rfl (by decide) (.inr ⟨start1' t _ (Nat.le_refl _), hnone ?_⟩)
    unfold f1
    rw [show t.size + 1 - t.size = 0 + 1 by omega, find1]
    have : dotAt t t.size = false := by unfold dotAt; rw [decide_eq_false (Nat.lt_irrefl _), Bool.and_false, Bool.false_and]
    rw [this]; rfl
theorem next2 (prog : Program) (w : World) : NextOk prog w c2 f2 := by
  intro A E s t st Q hsz hst hnone hsome
  rcases start2 t st with ⟨i, seen, hi, e⟩ | ⟨hi, e⟩
  · rw [e]
    obtain ⟨h1, h2, h3⟩ := find2_some hi
    have hc : t.getD i 0 = 10 ∨ t.getD i 0 = 13 := by
      unfold nlAt at h3
      simpa using h3
    obtain ⟨N, hN, m', hm, g1, g2, g3⟩ := turn2 t i true seen h1 hc
    refine wp_end hm (Nat.le_trans hN (by decide)) (.inl ⟨g1, hsome i (i + nlW t i) m' (by unfold f2; rw [hi]; rfl) g2 g3⟩)
  · exact wp_end (N := 1) rfl (by decide) (.inr ⟨e, hnone (by unfold f2; rw [hi]; rfl)⟩)
end Mine
end
section
open PySem PySem.Sre PySem.Builtin PySem.Builtin.Re PyProof.Rows
set_option maxRecDepth 100000
set_option Elab.async false
set_option maxHeartbeats 4000000
namespace Mine

noncomputable def dotS : Bool → List Nat → List Nat
  | _, [] => []
  | bol, c :: r => if bol = true ∧ c = 46 then 46 :: 46 :: dotS false r else c :: dotS (c == 10) r
noncomputable def nlS : List Nat → List Nat
  | [] => []
  | 13 :: 10 :: r => 13 :: 10 :: nlS r
  | 10 :: r => 13 :: 10 :: nlS r
  | 13 :: r => 13 :: 10 :: nlS r
  | c :: r => c :: nlS r
noncomputable def fl (ps : List Str) : List Nat := (ps.map (·.cps.toList)).flatten

theorem inter_nil (xs : List (List Nat)) : inter [] xs = xs.flatten := by
  induction xs with
  | nil => rfl
  | cons p r ih =>
    cases r with
    | nil => simp [inter]
    | cons q r =>
      rw [inter, ih]
      simp
theorem join_fl (ps : List Str) : Txt.join (sl []) ps = sl (fl ps) := by
  have h : ps = (ps.map (·.cps.toList)).map sl := by
    rw [List.map_map]
    conv => lhs; rw [← List.map_id ps]
    refine List.map_congr_left fun x _ => ?_
    exact sl_eta x
  conv => lhs; rw [h]
  rw [join_sl, inter_nil]; rfl

variable {fnd : Array Nat → Nat → Option (Nat × Nat)} {rep : Str}
theorem ext_list (t : Array Nat) (a b : Nat) (h : a ≤ b) : (t.extract a b).toList = (t.toList.drop a).take (b - a) := by
  simp
theorem fl_none {t : Array Nat} {k st : Nat} (h : fnd t st = none) (hs : st ≤ t.size) : fl (pcs fnd rep t (k + 1) st) = t.toList.drop st := by
  rw [pcs, h]
  by_cases hl : st < t.size
  · simp only [hl, if_true, fl, List.map_cons, List.map_nil, List.flatten_cons, List.flatten_nil, List.append_nil]
    rw [ext_list _ _ _ (by omega)]
    exact List.take_of_length_le (by simp)
  · simp only [hl, if_false, fl, List.map_nil, List.flatten_nil]
    exact (List.drop_of_length_le (by simp; omega)).symm
theorem fl_some {t : Array Nat} {k st a b : Nat} (h : fnd t st = some (a, b)) (hs : st ≤ a) : fl (pcs fnd rep t (k + 1) st) = (t.toList.drop st).take (a - st) ++ (rep.cps.toList ++ fl (pcs fnd rep t k b)) := by
  rw [pcs, h]
  by_cases hl : st < a
  · simp only [hl, if_true, fl, List.map_cons, List.map_append, List.map_nil, List.flatten_cons, List.flatten_append, List.flatten_nil, List.append_nil]
    rw [ext_list _ _ _ (by omega)]
  · have : a = st := by omega
    subst this
    simp [fl]

theorem getD_list (t : Array Nat) (i : Nat) : t.getD i 0 = t.toList.getD i 0 := by
  simp [Array.getD, List.getD]
  split
  · rename_i h; rw [Array.getElem?_eq_getElem h]; rfl
  · rename_i h; rw [Array.getElem?_eq_none (by omega)]; rfl

theorem find1_spec {t : Array Nat} : ∀ {k s : Nat}, (∀ a, find1 t k s = some a → ∀ j, s ≤ j → j < a → dotAt t j = false) ∧ (find1 t k s = none → ∀ j, s ≤ j → j < s + k → dotAt t j = false)
  | 0, s => ⟨(fun _ h => nomatch h), fun _ j h1 h2 => by omega⟩
  | k + 1, s => by
    obtain ⟨h1, h2⟩ := find1_spec (t := t) (k := k) (s := s + 1)
    constructor
    · intro a h j hj1 hj2
      rw [find1] at h
      split at h
      · cases h; omega
      · rename_i hn
        by_cases e : j = s
        · subst e; simpa using hn
        · exact h1 a h j (by omega) hj2
    · intro h j hj1 hj2
      rw [find1] at h
      split at h
      · cases h
      · rename_i hn
        by_cases e : j = s
        · subst e; simpa using hn
        · exact h2 h j (by omega) (by omega)
theorem find2_spec {t : Array Nat} : ∀ {k s : Nat}, (∀ a, find2 t k s = some a → ∀ j, s ≤ j → j < a → nlAt t j = false) ∧ (find2 t k s = none → ∀ j, s ≤ j → j < s + k → j < t.size → nlAt t j = false)
  | 0, s => ⟨(fun _ h => nomatch h), fun _ j h1 h2 => by omega⟩
  | k + 1, s => by
    obtain ⟨h1, h2⟩ := find2_spec (t := t) (k := k) (s := s + 1)
    constructor
    · intro a h j hj1 hj2
      rw [find2] at h
      split at h
      · cases h
      · split at h
        · cases h; omega
        · rename_i _ hn
          by_cases e : j = s
          · subst e; simpa using hn
          · exact h1 a h j (by omega) hj2
    · intro h j hj1 hj2 hj3
      rw [find2] at h
      split at h
      · omega
      · split at h
        · cases h
        · rename_i _ hn
          by_cases e : j = s
          · subst e; simpa using hn
          · exact h2 h j (by omega) (by omega) hj3

noncomputable def bolAt (t : Array Nat) (s : Nat) : Bool := s == 0 || t.getD (s - 1) 0 == 10
theorem drop_cons {t : Array Nat} {s : Nat} (h : s < t.size) : t.toList.drop s = t.getD s 0 :: t.toList.drop (s + 1) := by
  rw [getD_list, List.drop_eq_getElem_cons (by simpa using h), List.getD_eq_getElem?_getD, List.getElem?_eq_getElem (by simpa using h)]; rfl
theorem bol_next (t : Array Nat) (s : Nat) : bolAt t (s + 1) = (t.getD s 0 == 10) := by
  unfold bolAt
  rw [show s + 1 - 1 = s by omega]
  simp
theorem dot_skip {t : Array Nat} : ∀ (m s : Nat), s + m ≤ t.size → (∀ j, s ≤ j → j < s + m → dotAt t j = false) → dotS (bolAt t s) (t.toList.drop s) = (t.toList.drop s).take m ++ dotS (bolAt t (s + m)) (t.toList.drop (s + m))
  | 0, s, _, _ => by simp
  | m + 1, s, h, hn => by
    have hs : s < t.size := by omega
    rw [drop_cons hs, dotS, if_neg, List.take_succ_cons, List.cons_append, ← bol_next, dot_skip m (s + 1) (by omega) (fun j h1 h2 => hn j (by omega) (by omega)), show s + 1 + m = s + (m + 1) by omega]
    have := hn s (Nat.le_refl _) (by omega)
    unfold dotAt at this
    rw [decide_eq_true hs, Bool.and_true] at this
    intro ⟨h1, h2⟩
    have h1' : (s == 0 || t.getD (s - 1) 0 == 10) = true := h1
    rw [h1', h2] at this
    cases this
theorem sub_dots (t : Array Nat) : ∀ (k s : Nat), s ≤ t.size → t.size + 1 ≤ k + s → fl (pcs f1 (sl [46, 46]) t k s) = dotS (bolAt t s) (t.toList.drop s)
  | 0, s, h, hk => by omega
  | k + 1, s, h, hk => by
    cases hf : find1 t (t.size + 1 - s) s with
    | none =>
      have h1 : f1 t s = none := by unfold f1; rw [hf]; rfl
      rw [fl_none h1 h]
      have := dot_skip (t := t) (t.size - s) s (by omega) fun j h1 h2 => find1_spec.2 hf j h1 (by omega)
      rw [this, show s + (t.size - s) = t.size by omega]
      have e : t.toList.drop t.size = [] := List.drop_of_length_le (by simp)
      rw [e, dotS, List.append_nil, List.take_of_length_le (by simp)]
    | some a =>
      have h1 : f1 t s = some (a, a + 1) := by unfold f1; rw [hf]; rfl
      obtain ⟨q1, q2, q3⟩ := find1_some hf
      rw [fl_some h1 q2]
      have := dot_skip (t := t) (a - s) s (by omega) fun j h1 h2 => find1_spec.1 a hf j h1 (by omega)
      rw [this, show s + (a - s) = a by omega, drop_cons q1, sub_dots t k (a + 1) (by omega) (by omega)]
      have q3' := q3
      unfold dotAt at q3'
      simp only [Bool.and_eq_true, beq_iff_eq] at q3'
      have hb : bolAt t a = true := q3'.1.1
      rw [dotS, if_pos ⟨hb, q3'.2⟩, bol_next, q3'.2, sl_cps]
      rfl
theorem nl_skip {t : Array Nat} : ∀ (m s : Nat), s + m ≤ t.size → (∀ j, s ≤ j → j < s + m → nlAt t j = false) → nlS (t.toList.drop s) = (t.toList.drop s).take m ++ nlS (t.toList.drop (s + m))
  | 0, s, _, _ => by simp
  | m + 1, s, h, hn => by
    have hs : s < t.size := by omega
    have hc := hn s (Nat.le_refl _) (by omega)
    unfold nlAt at hc
    simp only [Bool.or_eq_false_iff, beq_eq_false_iff_ne] at hc
    rw [drop_cons hs, nlS.eq_5 _ _ (fun _ h _ => hc.2 h) (fun h => hc.1 h) (fun h => hc.2 h), List.take_succ_cons, List.cons_append, nl_skip m (s + 1) (by omega) (fun j h1 h2 => hn j (by omega) (by omega)), show s + 1 + m = s + (m + 1) by omega]
theorem sub_nls (t : Array Nat) : ∀ (k s : Nat), s ≤ t.size → t.size + 1 ≤ k + s → fl (pcs f2 (sl [13, 10]) t k s) = nlS (t.toList.drop s)
  | 0, s, h, hk => by omega
  | k + 1, s, h, hk => by
    cases hf : find2 t (t.size + 1 - s) s with
    | none =>
      have h1 : f2 t s = none := by unfold f2; rw [hf]; rfl
      rw [fl_none h1 h]
      have := nl_skip (t := t) (t.size - s) s (by omega) fun j h1 h2 => find2_spec.2 hf j h1 (by omega) (by omega)
      rw [this, show s + (t.size - s) = t.size by omega]
      have e : t.toList.drop t.size = [] := List.drop_of_length_le (by simp)
      rw [e, nlS, List.append_nil, List.take_of_length_le (by simp)]
    | some a =>
      have h1 : f2 t s = some (a, a + nlW t a) := by unfold f2; rw [hf]; rfl
      obtain ⟨q1, q2, q3⟩ := find2_some hf
      rw [fl_some h1 q2]
      have := nl_skip (t := t) (a - s) s (by omega) fun j h1 h2 => find2_spec.1 a hf j h1 (by omega)
      obtain ⟨_, w1, w2⟩ := f2_ok _ _ _ _ h1
      rw [this, show s + (a - s) = a by omega, sub_nls t k (a + nlW t a) w2 (by omega), sl_cps, drop_cons q1]
      congr 1
      unfold nlAt at q3
      simp only [Bool.or_eq_true, beq_iff_eq] at q3
      rcases q3 with q3 | q3
      · have hw : nlW t a = 1 := by unfold nlW; rw [if_neg]; rw [q3]; simp
        rw [hw, q3, nlS]; rfl
      · by_cases hx : a + 1 < t.size ∧ t.getD (a + 1) 0 = 10
        · have hw : nlW t a = 2 := by unfold nlW; rw [if_pos ⟨q3, hx⟩]
          rw [hw, q3, drop_cons hx.1, hx.2, nlS]; rfl
        · have hw : nlW t a = 1 := by unfold nlW; rw [if_neg]; exact fun q => hx q.2
          rw [hw, q3]
          cases hd : t.toList.drop (a + 1) with
          | nil => rw [nlS]; rfl
          | cons d r =>
            have hlt : a + 1 < t.size := by
              have := congrArg List.length hd
              rw [List.length_drop, List.length_cons] at this
              simp at this; omega
            have hdd : d = t.getD (a + 1) 0 := by
              rw [drop_cons hlt] at hd
              cases hd; rfl
            have hne : d ≠ 10 := fun q => hx ⟨hlt, by rw [← hdd]; exact q⟩
            rw [nlS.eq_4 (d :: r) (fun r' h => hne (by cases h; rfl))]; rfl
end Mine
end
section
open PySem PySem.W PySem.Sre PySem.Builtin PySem.Builtin.Re PyProof.Rows
set_option maxRecDepth 100000
set_option Elab.async false
set_option maxHeartbeats 4000000
namespace Mine
theorem nls_len (l : List Nat) : (nlS l).length ≤ 2 * l.length := by
  induction l using nlS.induct with
  | case1 => simp [nlS]
  | case2 r ih => rw [nlS]; simp only [List.length_cons]; omega
  | case3 r ih => rw [nlS]; simp only [List.length_cons]; omega
  | case4 r h ih => rw [nlS.eq_4 _ h]; simp only [List.length_cons]; omega
  | case5 c r h1 h2 h3 ih => rw [nlS.eq_5 _ _ h1 h2 h3]; simp only [List.length_cons]; omega

section
variable {prog : Program} {w : World} {A : Around} {s : Shared} {E : Value → Shared → Prop} {env : Env}
theorem eval_sub {x : Str} {xp apos pos : Pos} {args : List Expr} {p : Addr} {c : Array Nat} {Q : Value → Shared → Prop} (hplain : (backTo pos (starEach args env)).any (·.1) = false) (hlen : args.length < 5) (hl : (apos.endLine == pos.line) = true) (PA : PatAt s.heap p c)
    (ho : ∀ {Q' : Value → Shared → Prop}, Q' (.ref p) s → wpAny (model prog w) A (eval (.Name x xp) env) Q' E s)
    (h : wpAny (model prog w) A (spliced (backTo pos (starEach args env))) (fun vs s₁ => wpAny (model prog w) A (call (.builtin "re.Pattern.sub") (.ref p :: vs)) Q E s₁) E s) :
    wpAny (model prog w) A (eval (.Call (.Attribute (.Name x xp) (Str.ofString "sub") apos) args [] pos) env) Q E s := by
  rw [arm_eval_Call, base_ok rfl]
  refine wpAny_bind (ho ?_)
  refine wpAny_bind (wpAny_standAt ?_)
  have hform : methodCallForm (args.length + ([] : List Keyword).length) (backTo pos (starEach args env)) (backToKw pos (keywordEach [] env)) = true := by
    unfold methodCallForm
    have h1 : (backTo pos (starEach args env)).all (fun x => !x.1) = true := by
      rw [List.all_eq_true]
      intro x hx
      have := List.any_eq_false.mp hplain x hx
      simpa using this
    rw [h1]
    rw [show backToKw pos (keywordEach [] env) = [] from rfl]; simp
    omega
  have hpos : methodCallPos true (.Name x xp) env apos pos = pure pos := by unfold methodCallPos; simp [hl]
  unfold methodCall
  rw [hform]
  obtain ⟨o, vs, ct, t6, t2, h1, h2, h3, _⟩ := PA.obj
  refine wpAny_bind (wpAny_holding (getMethod_builtin (id := "re.Pattern.sub") ⟨o, h1, h2⟩ pa_pat slot_sub type_sub (fun a' e => by cases e; exact ⟨o, h1, h3⟩) ?_))
  refine wpAny_bind (wpAny_of_eq hpos ?_)
  exact callWith_b (.inl ⟨_, rfl⟩) hplain h
end

/-- quotedata's block -/
structure QuoteAt (p : Program) (k : Nat) : Prop where
  body : ∃ a1 a2 c1' a3 a4 a5 a6 a7 a8 a9 a10, fbody p k = [.Return (some (.Call (.Attribute (.Name (Str.ofString "_twin_re_1") a1) (Str.ofString "sub") a2) [.Constant (.str (Str.ofString "..")) c1' a3, .Call (.Attribute (.Name (Str.ofString "_twin_re_2") a4) (Str.ofString "sub") a5) [.Name (Str.ofString "CRLF") a6, .Name (Str.ofString "data") a7] [] a8] [] a9)) a10] ∧
    (a2.endLine == a9.line) = true ∧ (a5.endLine == a8.line) = true
  n1 : (fscope p k).names.lookup (Str.ofString "_twin_re_1") = some .globalImplicit
  n2 : (fscope p k).names.lookup (Str.ofString "_twin_re_2") = some .globalImplicit
  n3 : (fscope p k).names.lookup (Str.ofString "CRLF") = some .globalImplicit

noncomputable def quoteF : List D → Option D
  | [.str x] => if x.cps.size ≤ 40000 then some (.str (sl (dotS true (nlS x.cps.toList)))) else none
  | _ => none

theorem fnOk_quote {prog : Program} {w : World} {h₀ : Heap} {mg mb : Str → Option Value} {lvl : Nat} {K : Frag} (KX : K.In h₀) (hlim : h₀.NoLimit) (G : Glo h₀ mg mb) {p : Program} {k : Nat} {a p1 q1 : Addr} {tc : Tok}
    (H : FnAt K p k (Str.ofString "quotedata") a [Str.ofString "data"]) (hq : QuoteAt p k) (P1 : PatAt h₀ p1 c1) (P2 : PatAt h₀ q1 c2) (m1 : mg (Str.ofString "_twin_re_1") = some (.ref p1)) (m2 : mg (Str.ofString "_twin_re_2") = some (.ref q1)) (m3 : mg (Str.ofString "CRLF") = some (.str (sl [13, 10]) tc)) :
    FnOk1 prog w h₀ mg (lvl + 1) (Str.ofString "quotedata") quoteF := by
  intro ds d e
  obtain ⟨o, pm, cd, doc, ho, hd, hc⟩ := H.obj
  have ho' := KX _ _ ho
  refine ⟨H.db, a, mg_of KX G.g H.nm, ⟨o, _, ho', hd⟩, fun A s Z vs rm old ht zi ra => ?_⟩
  unfold quoteF at e
  split at e
  · rename_i x
    split at e
    · rename_i hx
      simp only [Option.some.injEq] at e
      subst e
      refine fn_frame (lvl := lvl) ho' hd hlim (codeRec_of KX hc) (H.bind pm cd doc) H.par rm old ht zi ra rfl fun env Y s₁ he hs₁ ht₁ F rm' E => ?_
      subst he
      obtain ⟨a1, a2, c1', a3, a4, a5, a6, a7, a8, a9, a10, hb, l1, l2⟩ := hq.body
      rw [hb]
      have old1 : Ext h₀ s₁.heap := old.trans F.keep
      refine wpAny_execs_cons (wpAny_Return_some ?_)
      refine eval_sub rfl (by simp) l1 (P1.ext old1) (fun hq' => eval_fn G F.env_ hq.n1 (by decide +kernel) m1 hq') ?_
      refine spliced_more ?_ rfl
      refine Calls.Constant_str ?_
      have kp1 : Kp s₁ { s₁ with toks := s₁.toks + 1 } := .tok
      have F1 := F.ext kp1.ext
      refine spliced_more ?_ rfl
      refine eval_sub (s := { s₁ with toks := s₁.toks + 1 }) rfl (by simp) l2 (P2.ext old1) (fun hq' => eval_fn G F1.env_ hq.n2 (by decide +kernel) m2 hq') ?_
      refine spliced_more ?_ rfl
      refine eval_fn G F1.env_ hq.n3 (by decide +kernel) m3 ?_
      refine spliced_more ?_ rfl
      obtain ⟨v, hv, r⟩ := F1.val (Str.ofString "data") (.str x) rfl
      refine eval_name F1.sta.kind (F1.dbg _ _ rfl) hv ?_
      cases r with
      | str _ t =>
        refine Calls.spliced_nil ?_
        refine wpAny_mono (sub_call (next2 prog w) f2_ok (c := c2) (x := x) (by omega) (by rw [sl_len]; decide) (by decide +kernel) (P2.ext (old1.trans kp1.ext)) E) (fun v s₂ h₂ => ?_) fun _ _ x => x
        obtain ⟨kp2, t2, rfl⟩ := h₂
        have hin : Txt.join (sl []) (pcs f2 (sl [13, 10]) x.cps (x.cps.size + 1) 0) = sl (nlS x.cps.toList) := by
          rw [join_fl, sub_nls _ _ _ (Nat.zero_le _) (by omega), List.drop_zero]
        rw [hin]
        refine Calls.spliced_nil ?_
        have hl2 := nls_len x.cps.toList
        have hsz : (sl (nlS x.cps.toList)).cps.size = (nlS x.cps.toList).length := by simp [sl]
        have hxl : x.cps.toList.length = x.cps.size := by simp
        have hd2 : Str.ofString ".." = sl [46, 46] := by decide +kernel
        rw [hd2]
        refine wpAny_mono (sub_call (next1 prog w) f1_ok (c := c1) (x := sl (nlS x.cps.toList)) (rep := sl [46, 46]) (by omega) (by rw [sl_len]; decide) (by decide +kernel) (P1.ext ((old1.trans kp1.ext).trans kp2.ext)) E) (fun v s₃ h₃ => ?_) fun _ _ x => x
        obtain ⟨kp3, t3, rfl⟩ := h₃
        have hout : Txt.join (sl []) (pcs f1 (sl [46, 46]) (sl (nlS x.cps.toList)).cps ((sl (nlS x.cps.toList)).cps.size + 1) 0) = sl (dotS true (nlS x.cps.toList)) := by
          rw [join_fl, sub_dots _ _ _ (Nat.zero_le _) (by omega), List.drop_zero, sl_cps]; rfl
        rw [hout]
        refine ⟨_, rfl, ?_, .str _ _⟩
        have kk := (kp1.trans kp2).trans kp3
        obtain ⟨h1, t1, rfl⟩ := hs₁
        obtain ⟨h4, t4, e4, x4⟩ := kk
        rw [e4]
        exact ⟨h4, t4, rfl, F.keep.trans x4⟩
    · simp at e
  · simp at e
end Mine
end
section
open PySem PySem.W PyProof.Rows
set_option maxRecDepth 100000
set_option Elab.async false
set_option maxHeartbeats 4000000
namespace Mine
noncomputable def Not257 (x : Str) : Prop := ∃ y, slice (.str x) .none (.int 3) .none = some (.str y) ∧ y ≠ Str.ofString "257"
theorem News.ext' {h₀ h h' : Heap} {L : Addr} {news : List (Addr × Obj)} (N : News h₀ L h news) (e : Ext h h') : News h₀ L h' news := fun p hp => ⟨e _ _ (N p hp).1, (N p hp).2⟩
theorem Fr.ext' {h₀ h h' : Heap} {L : Addr} {m : Str → Option Value} (F : Fr h₀ L h m) (e : Ext h h') : Fr h₀ L h' m := ⟨F.ns.keeps e, fun b o q => e _ _ (F.keep b o q), F.above⟩
theorem test_257 {prog : Program} {w : World} {A : Around} {E : Value → Shared → Prop} {s : Shared} {h₀ : Heap} {L a : Addr} {cd : Value} {name : Str} {scope : Scope} {m : Str → Option Value} {news : List (Addr × Obj)} {Q : Bool → Shared → Prop} {x : Str} {tk : Tok} {k k' : Nat} {p1 p2 p3 p4 p5 p6 : Pos} {whole : Sem Value}
    (F : Fr h₀ L s.heap m) (N : News h₀ L s.heap news) (hx : Not257 x) (hm : m (Str.ofString "resp") = some (.str x tk)) (rm : Room A 0) (hk : scope.kind = .function) (hl : scope.names.lookup (Str.ofString "resp") = some .local)
    (h : ∀ h' tk', Fr h₀ L h' m → News h₀ L h' news → Q true { s with heap := h', toks := tk' }) :
    wpAny (model prog w) A (isTrue (.Compare (.Subscript (.Name (Str.ofString "resp") p1) (.Slice none (some (.Constant (.int 3) k p2)) none p3) p4) [.NotEq] [.Constant (.str (Str.ofString "257")) k' p5] p6) (envOf name scope L a cd) whole) Q E s := by
  obtain ⟨y, hy, hne⟩ := hx
  have pos : ∀ {Q' : Value → Shared → Prop} {s' : Shared}, Kp s s' → Q' (.str x tk) s' → wpAny (model prog w) A (eval (.Name (Str.ofString "resp") p1) (envOf name scope L a cd)) Q' E s' := fun {Q' s'} kp hq =>
    eval_name hk (by decide +kernel) (.inl ⟨hl, m, F.ns.keeps kp.ext, hm⟩) hq
  refine wpAny_isTrue_Compare1 ?_ rfl
  refine subscript_rule (pos (.refl _) ?_)
  refine wpAny_Slice ?_
  show wpAny _ _ (pure Value.none) _ _ _
  refine wpAny_pure ?_
  show wpAny _ _ (eval (.Constant (.int 3) k p2) _) _ _ _
  refine wpAny_Constant_int ?_
  show wpAny _ _ (pure Value.none) _ _ _
  refine wpAny_pure ?_
  have kk : Kp s { s with heap := s.heap.push { cls := .type "slice", data := .fields #[.none, .int 3 s.toks, .none] }, toks := s.toks + 1 } := ⟨_, _, rfl, Ext.push _ _⟩
  have rx : Rep [] (s.heap.push { cls := .type "slice", data := .fields #[.none, .int 3 s.toks, .none] }) (.str x tk) (.str x) := .str _ _
  refine ⟨sub_typed (Z := []) (s := { s with heap := s.heap.push { cls := .type "slice", data := .fields #[.none, .int 3 s.toks, .none] }, toks := s.toks + 1 }) rx (.inr (.inl ⟨x, rfl⟩)), ?_⟩
  refine wpAny_mono (gv_slice (Z := []) (s := { s with heap := s.heap.push { cls := .type "slice", data := .fields #[.none, .int 3 s.toks, .none] }, toks := s.toks + 1 }) (fun _ h => nomatch h) rx .none (.int _ _) .none (Heap.IsSliceOf.new ..) hy E) (fun v s₂ h₂ => ?_) fun _ _ q => q
  obtain ⟨k2, r2⟩ := h₂
  refine Calls.Constant_str ?_
  have k3 : Kp s₂ { s₂ with toks := s₂.toks + 1 } := .tok
  have kf := (kk.trans k2).trans k3
  have e : cmp .NotEq (.str y) (.str (Str.ofString "257")) = some true := by
    rw [cm_ne, eq_str, decide_eq_false hne]; rfl
  refine wpAny_mono (cmp_ok (Z := []) (s := { s₂ with toks := s₂.toks + 1 }) r2 (.str _ _) rm e) (fun c s₄ h₄ => ?_) fun _ _ q => q
  obtain ⟨rfl, rfl⟩ := h₄
  refine wpAny_truthy_bool ?_
  obtain ⟨h9, t9, e9, x9⟩ := kf
  rw [e9]
  exact h _ _ (Fr.ext' F x9) (News.ext' N x9)
end Mine
end
section
open PySem PySem.W PySem.Builtin PySem.Builtin.Str PySem.Builtin.BaseException PyProof.Rows
set_option maxRecDepth 100000
set_option Elab.async false
set_option maxHeartbeats 4000000
namespace Mine
section
variable {prog : Program} {w : World} {A : Around} {E : Value → Shared → Prop} {s : Shared} {K : Frag} {e t0 C : Addr}

/-- an exception of an own class, with one text -/
structure OwnExc (h : Heap) (e C t0 : Addr) (m : Str) (tk : Tok) : Prop where
  at_ : ∃ o vs, h.get? e = some o ∧ o.cls = .ref C ∧ o.data = .fields vs ∧ vs[0]? = some (.ref t0)
  tup : ∃ o n, h.get? t0 = some o ∧ o.data = .seq #[.str m tk] n

theorem slot_bstr : Slot "BaseException" "__str__" "BaseException.__str__" :=
  .of (owner := "BaseException") (n := "__str__") (by rw [typeLookup_type, builtinLookup_eq_fast]; kernel_rfl) (by decide +kernel) (by decide +kernel) (by decide +kernel)
    (by first | exact .inl (by decide +kernel) | exact .inr (by decide +kernel)) (by rw [isSubtype_type]; kernel_rfl)
theorem ownTy {h : Heap} {m : Str} {tk : Tok} {M : Model} (x : OwnExc h e C t0 m tk) : Looks M h (typeOf (.ref e)) (.ref C) := by
  obtain ⟨⟨o, vs, ho, hc, _⟩, _⟩ := x
  exact hc ▸ (Looks.ld ho).andThen .now

theorem check_own {m : Str} {tk : Tok} {Q : Unit → Shared → Prop} (X : K.In s.heap) (x : OwnExc s.heap e C t0 m tk) (hm : mroIn K C (.type "BaseException") = some true) (hq : Q () s) :
    wpAny (model prog w) A (checkBuiltinCall "BaseException.__str__" ⟨[.ref e], []⟩) Q E s := by
  have hk : builtinKind "BaseException.__str__" = some .slot := by decide +kernel
  have hs : splitId "BaseException.__str__" = some ("BaseException", "__str__") := by decide +kernel
  have ha := PySem.F.args_bexc_str (.ref e)
  simp only [checkBuiltinCall, hk, hs]
  refine wpAny_bind ?_
  unfold isInstance
  refine wpAny_bind ((ownTy x).here ((looks_mroIn X hm).here ?_))
  cases hsig : Manifest.signature? "BaseException.__str__" with
  | none => exact wpAny_pure hq
  | some sig =>
    simp only [argsOk, hsig] at ha
    have h2 : Bind.checkArgs "BaseException.__str__" sig ⟨[.ref e], []⟩ = pure () := ha
    show wpAny (model prog w) A (Bind.checkArgs "BaseException.__str__" sig ⟨[.ref e], []⟩) Q E _
    rw [h2]; exact wpAny_pure hq

theorem bexc_own {m : Str} {tk : Tok} {Q : PySem.Fin → Shared → Prop} (x : OwnExc s.heap e C t0 m tk) (hq : Q (.done (.ret (.str m tk))) s) : wpAny (model prog w) A (Builtin.«BaseException.__str__» ⟨[.ref e], []⟩) Q E s := by
  obtain ⟨⟨o, vs, ho, hc, hd, h0⟩, ot, n, hto, htd⟩ := x
  have hb : ∀ {Q' : Value × List Value → Shared → Prop}, Q' (.ref t0, [.str m tk]) s → wpAny (model prog w) A (bexcArgs (.ref e)) Q' E s := fun {Q'} hq' => by
    unfold bexcArgs
    refine wpAny_bind (wpAny_field ho hd h0 (wpAny_bind (wpAny_seqItems hto htd ?_)))
    exact wpAny_pure hq'
  unfold Builtin.«BaseException.__str__»
  repeat (first | with_reducible refine hb ?_ | wp_step)
  exact hq

theorem strOf_own {m : Str} {tk : Tok} {Q : Value → Shared → Prop} (hu : A.units < cLine) (X : K.In s.heap) (x : OwnExc s.heap e C t0 m tk) (hs : findIn K (.ref C) "__str__" = some (some (.builtin "BaseException.__str__"))) (hm : mroIn K C (.type "BaseException") = some true)
    (hq : Q (.str m tk) s) : wpAny (model prog w) A (PySem.Builtin.Str.strOf (.ref e)) Q E s := by
  unfold PySem.Builtin.Str.strOf
  rw [show isExactStr (.ref e) = false from rfl]
  refine wpAny_bind (m := cRoomFor _ _) (wpAny_cRoomFor hu ?_)
  refine wpAny_bind (m := callSpecial? (.ref e) (Str.ofString "__str__")) ?_
  simp only [callSpecial?]
  refine wpAny_bind (m := specialOf _ _) ?_
  · unfold specialOf
    refine wpAny_bind ((ownTy x).here ((looks_findIn X hs).here ?_))
    have hb : bindSpecial (.builtin "BaseException.__str__") (.ref e) = pure (.builtin "BaseException.__str__", [.ref e]) := slot_bstr.bind _
    dsimp only
    refine wpAny_holding ?_
    rw [hb]
    refine wpAny_bind (wpAny_pure ?_)
    refine wpAny_bind (wpAny_call (codeAny_call_builtin (by decide +kernel) PySem.F.entry_bexc_str (check_own X x hm (bexc_own x ?_))))
    exact wpAny_pure (wpAny_pure hq)

theorem str_own {m : Str} {tk : Tok} {Q : Value → Shared → Prop} (hu : A.in1.in1.units < cLine) (X : K.In s.heap) (x : OwnExc s.heap e C t0 m tk) (hs : findIn K (.ref C) "__str__" = some (some (.builtin "BaseException.__str__"))) (hm : mroIn K C (.type "BaseException") = some true)
    (hq : Q (.str m tk) s) : wpAny (model prog w) A (call (.type "str") [.ref e]) Q E s := by
  refine callType_codes (T := "str") (Bi := Builtin.«object.__init__») (Q₁ := fun r s₁ => ∃ y u, r = .str y u ∧ Q r s₁) PySem.F.called_str (PySem.F.typeCall_str_1 _) PySem.F.entry_object_init ?_ ?_
  · refine codeAny_of_tree ?_
    show wpAny _ A.in1.in1 (do checkBuiltinCall "str.__new__" ⟨[.type "str", .ref e], []⟩; again (.builtin "str.__new__" ⟨[.type "str", .ref e], []⟩)) _ _ s
    refine wpAny_bind (wpAny_of_eq (PySem.F.newCall_str_1 _) (wpAny_pure ⟨plainId_quiet (by decide +kernel) _, codeAny_builtin PySem.F.entry_str_new ?_⟩))
    rw [Around.under_plainId (by decide +kernel) _]
    rw [str_new_tree]
    refine wpAny_bind (wpAny_pure ?_)
    refine wpAny_bind (wpAny_of_eq isSubtype_str_str ?_)
    exact wpAny_bind (strOf_own hu X x hs hm (wpAny_pure ⟨_, _, rfl, hq⟩))
  · rintro obj s₁ ⟨y, u, rfl, hq⟩
    exact ⟨typeIs_str _ _ _, PySem.F.args_object_init_2 _ _, object_init_meets PySem.F.called_str.init.lookup PySem.F.called_str.made (by decide) prog w A.in1 _ s₁ ⟨typeIs_str _ _ _, rfl, hq⟩⟩
theorem OwnExc.of_got {h₀ h : Heap} {L : Addr} {news : List (Addr × Obj)} {m : Str} {tk : Tok} (N : News h₀ L h news) (G : Got news e t0 (.ref C) [.str m tk]) : OwnExc h e C t0 m tk := by
  obtain ⟨oe, ot, ws, nt, h1, h2, hc, hd, h0, htc, htd⟩ := G
  exact ⟨⟨oe, ws, N.get h1, hc, hd, h0⟩, ot, nt, N.get h2, htd⟩
theorem str_got_own {h₀ : Heap} {L : Addr} {M₀ : Str → Option Value} {news : List (Addr × Obj)} {m : Str} {tk : Tok} {Q : Value → Shared → Prop} (F : Fr h₀ L s.heap M₀) (X : K.In h₀) (N : News h₀ L s.heap news) (G : Got news e t0 (.ref C) [.str m tk]) (hu : A.in1.in1.units < cLine)
    (hs : findIn K (.ref C) "__str__" = some (some (.builtin "BaseException.__str__"))) (hm : mroIn K C (.type "BaseException") = some true) (hq : Q (.str m tk) s) : wpAny (model prog w) A (call (.type "str") [.ref e]) Q E s :=
  str_own hu (X.keeps F.keep) (.of_got N G) hs hm hq
end
end Mine
end
section
open PySem PySem.W PyProof.Rows
set_option Elab.async false
set_option maxRecDepth 100000
set_option maxHeartbeats 8000000
theorem Mine.wellS : OpenLaw.wellSaid PySem.Challenge.rw_xc0004_01 = true := by decide +kernel
local macro_rules | `(tactic| o_law) => `(tactic| refine holds_law Mine.wellS fun said => ?_)
namespace Mine
open_top hd for PySem.Challenge.rw_xc0004_01
end Mine
end
section
open PySem
set_option maxRecDepth 100000
set_option Elab.async false
namespace Mine
noncomputable abbrev p1 := PySem.Challenge.pw_xc0004_01
theorem cap_le {n : Nat} (h : n ≤ 1000000) : n ≤ cap := Nat.le_trans h (by decide)
theorem b_len : builtinNames.contains (Str.ofString "len") = true := by decide +kernel
theorem b_sum : builtinNames.contains (Str.ofString "sum") = true := by decide +kernel
end Mine
end
section
open PySem
set_option maxRecDepth 100000
set_option Elab.async false
set_option linter.unusedSimpArgs false
set_option linter.unusedVariables false
set_option maxHeartbeats 4000000
namespace Mine
-- parse257
noncomputable def nP : Names := fnames p1 6
noncomputable def bP : List Stmt := fbody p1 6
theorem nP_c : stOk nP (Str.ofString "c") = true := by decide +kernel
theorem nP_i : stOk nP (Str.ofString "i") = true := by decide +kernel
theorem nP_n : stOk nP (Str.ofString "n") = true := by decide +kernel
theorem nP_d : stOk nP (Str.ofString "dirname") = true := by decide +kernel
theorem nP_len : nP.lookup (Str.ofString "len") = some .globalImplicit := by decide +kernel

theorem put_c {t : Rho} (ht : t = [] ∨ ∃ c0, t = [vS "c" c0]) (A : D) : put t (Str.ofString "c") (.val A) = [(Str.ofString "c", .val A)] := by
  rcases ht with rfl | ⟨c0, rfl⟩ <;> simp only [put_s, put_nil, if_true]
section
variable (Φ : Fns) (s dn : Str) (i n : Int) (t : Rho)
theorem wP_test : evT Φ (tst? bP 5) nP ([vS "resp" s, vS "dirname" dn, vI "i" i, vI "n" n] ++ t) = some (decide (i < n)) := by
  conv => lhs; arg 2; whnf
  simp only [exs_nil, exs_cons, andThen_next, andThen_brk, andThen_ret, ifS_true, ifS_false, ex_if, ex_pass, ex_break, retS_some, ex_ret, asgS_some, ex_asg, augS_some, ex_aug, appS_some, ex_app, forS_some, ex_for, ex_while, ev_const, ev_name, bin2_some, ev_bin, negO_some, ev_neg, ifE_true, ifE_false, ev_if, ev_list, ev_tuple, cons2_some, evs_nil, evs_cons, cmp2_some, evT_cmp, ev_cmp, truthO_some, evT_name, evT_bin, evT_and, evT_or, evT_not, andS_true, andS_false, orS_true, orS_false, evA_nil, evR_nil, evA_cons, evR_cons, ev_call, evT_call, slice4_some, ev_slice, evO_none, evO_some, idxO_some, ev_idx_name, ev_idx_const, ev_idx_bin, ev_idx_un, ev_comp, evI_name, evI_list, evI_slice, evI_range, rangeO_some, getV_val, getV_own, lookup_s, put_nil, put_s, freeze_miss, freeze0, own0, asg0, aug0, for0, eq_self, not_false_eq_true, not_true_eq_false, vI, vS, vB, vL, vO, bo_addI, bo_subI, bo_andI, cm_eq, cm_ne, cm_lt, cm_le, cm_gt, cm_ge, eq_int, eq_str, eq_bytes, tr_int, tr_bool, cd_int, cd_str, cd_bytes, cd_none, cd_bool, nocontains, String.reduceEq, if_true, if_false, Bool.false_eq_true, Option.map_some, ex_tup_call, ex_tup_disp, namesOf_nil, namesOf_name, putsO_some, puts_nil, puts_cons, tupV_some, tupD_some, evCO_some, evC_nil, evC_step, consC_some, List.map_cons, List.map_nil, methN_own, ev_meth_name, ev_meth_const, ev_meth_sub, ev_meth_call, callM_some, beq_self_eq_true, Bool.and_self, Bool.and_true, Nat.reduceLT, listO_s, tupO_s, List.length_cons, List.length_nil, Nat.reduceAdd, Nat.reduceLeDiff, methN_val, List.all_nil, List.all_cons, decide_true, decide_false, List.take_succ_cons, List.take_zero, List.nil_append, List.cons_append]
theorem wP_1 (ht : t = [] ∨ ∃ c0, t = [vS "c" c0]) {c : Str} (hI : index (.str s) (.int i) = some (.str c)) (hc : (c = Str.ofString "\"") = False) (hcap : dn.length + c.length ≤ cap) :
    exs Φ ({} : Pol) nP (inner? bP 5) ([vS "resp" s, vS "dirname" dn, vI "i" i, vI "n" n] ++ t) = some (Fl.next, [vS "resp" s, vS "dirname" (dn ++ c), vI "i" (i + 1), vI "n" n, vS "c" c]) := by
  obtain hput := put_c ht
  conv => lhs; arg 4; whnf
  simp only [exs_nil, exs_cons, andThen_next, andThen_brk, andThen_ret, ifS_true, ifS_false, ex_if, ex_pass, ex_break, retS_some, ex_ret, asgS_some, ex_asg, augS_some, ex_aug, appS_some, ex_app, forS_some, ex_for, ex_while, ev_const, ev_name, bin2_some, ev_bin, negO_some, ev_neg, ifE_true, ifE_false, ev_if, ev_list, ev_tuple, cons2_some, evs_nil, evs_cons, cmp2_some, evT_cmp, ev_cmp, truthO_some, evT_name, evT_bin, evT_and, evT_or, evT_not, andS_true, andS_false, orS_true, orS_false, evA_nil, evR_nil, evA_cons, evR_cons, ev_call, evT_call, slice4_some, ev_slice, evO_none, evO_some, idxO_some, ev_idx_name, ev_idx_const, ev_idx_bin, ev_idx_un, ev_comp, evI_name, evI_list, evI_slice, evI_range, rangeO_some, getV_val, getV_own, lookup_s, put_nil, put_s, freeze_miss, freeze0, own0, asg0, aug0, for0, eq_self, not_false_eq_true, not_true_eq_false, vI, vS, vB, vL, vO, bo_addI, bo_subI, bo_andI, cm_eq, cm_ne, cm_lt, cm_le, cm_gt, cm_ge, eq_int, eq_str, eq_bytes, tr_int, tr_bool, cd_int, cd_str, cd_bytes, cd_none, cd_bool, nocontains, String.reduceEq, if_true, if_false, Bool.false_eq_true, Option.map_some, ex_tup_call, ex_tup_disp, namesOf_nil, namesOf_name, putsO_some, puts_nil, puts_cons, tupV_some, tupD_some, evCO_some, evC_nil, evC_step, consC_some, List.map_cons, List.map_nil, methN_own, ev_meth_name, ev_meth_const, ev_meth_sub, ev_meth_call, callM_some, beq_self_eq_true, Bool.and_self, Bool.and_true, Nat.reduceLT, listO_s, tupO_s, List.length_cons, List.length_nil, Nat.reduceAdd, Nat.reduceLeDiff, methN_val, List.all_nil, List.all_cons, decide_true, decide_false, List.take_succ_cons, List.take_zero, List.nil_append, List.cons_append, getV_put, hput, nP_c, nP_i, nP_d, hI, hc, bo_addS hcap]
theorem wP_2 (ht : t = [] ∨ ∃ c0, t = [vS "c" c0]) {c : Str} (hI : index (.str s) (.int i) = some (.str c)) (hc : (c = Str.ofString "\"") = True) (hn : (i + 1 ≥ n) = False) (hJ : index (.str s) (.int (i + 1)) = some (.str c)) (hcap : dn.length + c.length ≤ cap) :
    exs Φ ({} : Pol) nP (inner? bP 5) ([vS "resp" s, vS "dirname" dn, vI "i" i, vI "n" n] ++ t) = some (Fl.next, [vS "resp" s, vS "dirname" (dn ++ c), vI "i" (i + 1 + 1), vI "n" n, vS "c" c]) := by
  obtain hput := put_c ht
  conv => lhs; arg 4; whnf
  simp only [exs_nil, exs_cons, andThen_next, andThen_brk, andThen_ret, ifS_true, ifS_false, ex_if, ex_pass, ex_break, retS_some, ex_ret, asgS_some, ex_asg, augS_some, ex_aug, appS_some, ex_app, forS_some, ex_for, ex_while, ev_const, ev_name, bin2_some, ev_bin, negO_some, ev_neg, ifE_true, ifE_false, ev_if, ev_list, ev_tuple, cons2_some, evs_nil, evs_cons, cmp2_some, evT_cmp, ev_cmp, truthO_some, evT_name, evT_bin, evT_and, evT_or, evT_not, andS_true, andS_false, orS_true, orS_false, evA_nil, evR_nil, evA_cons, evR_cons, ev_call, evT_call, slice4_some, ev_slice, evO_none, evO_some, idxO_some, ev_idx_name, ev_idx_const, ev_idx_bin, ev_idx_un, ev_comp, evI_name, evI_list, evI_slice, evI_range, rangeO_some, getV_val, getV_own, lookup_s, put_nil, put_s, freeze_miss, freeze0, own0, asg0, aug0, for0, eq_self, not_false_eq_true, not_true_eq_false, vI, vS, vB, vL, vO, bo_addI, bo_subI, bo_andI, cm_eq, cm_ne, cm_lt, cm_le, cm_gt, cm_ge, eq_int, eq_str, eq_bytes, tr_int, tr_bool, cd_int, cd_str, cd_bytes, cd_none, cd_bool, nocontains, String.reduceEq, if_true, if_false, Bool.false_eq_true, Option.map_some, ex_tup_call, ex_tup_disp, namesOf_nil, namesOf_name, putsO_some, puts_nil, puts_cons, tupV_some, tupD_some, evCO_some, evC_nil, evC_step, consC_some, List.map_cons, List.map_nil, methN_own, ev_meth_name, ev_meth_const, ev_meth_sub, ev_meth_call, callM_some, beq_self_eq_true, Bool.and_self, Bool.and_true, Nat.reduceLT, listO_s, tupO_s, List.length_cons, List.length_nil, Nat.reduceAdd, Nat.reduceLeDiff, methN_val, List.all_nil, List.all_cons, decide_true, decide_false, List.take_succ_cons, List.take_zero, List.nil_append, List.cons_append, getV_put, hput, nP_c, nP_i, nP_d, hI, hJ, hc, hn, bo_addS hcap, Bool.not_true, Bool.not_false]
theorem wP_3 (ht : t = [] ∨ ∃ c0, t = [vS "c" c0]) {c : Str} (hI : index (.str s) (.int i) = some (.str c)) (hc : (c = Str.ofString "\"") = True) (hn : (i + 1 ≥ n) = True) :
    exs Φ ({} : Pol) nP (inner? bP 5) ([vS "resp" s, vS "dirname" dn, vI "i" i, vI "n" n] ++ t) = some (Fl.brk, [vS "resp" s, vS "dirname" dn, vI "i" (i + 1), vI "n" n, vS "c" c]) := by
  obtain hput := put_c ht
  conv => lhs; arg 4; whnf
  simp only [exs_nil, exs_cons, andThen_next, andThen_brk, andThen_ret, ifS_true, ifS_false, ex_if, ex_pass, ex_break, retS_some, ex_ret, asgS_some, ex_asg, augS_some, ex_aug, appS_some, ex_app, forS_some, ex_for, ex_while, ev_const, ev_name, bin2_some, ev_bin, negO_some, ev_neg, ifE_true, ifE_false, ev_if, ev_list, ev_tuple, cons2_some, evs_nil, evs_cons, cmp2_some, evT_cmp, ev_cmp, truthO_some, evT_name, evT_bin, evT_and, evT_or, evT_not, andS_true, andS_false, orS_true, orS_false, evA_nil, evR_nil, evA_cons, evR_cons, ev_call, evT_call, slice4_some, ev_slice, evO_none, evO_some, idxO_some, ev_idx_name, ev_idx_const, ev_idx_bin, ev_idx_un, ev_comp, evI_name, evI_list, evI_slice, evI_range, rangeO_some, getV_val, getV_own, lookup_s, put_nil, put_s, freeze_miss, freeze0, own0, asg0, aug0, for0, eq_self, not_false_eq_true, not_true_eq_false, vI, vS, vB, vL, vO, bo_addI, bo_subI, bo_andI, cm_eq, cm_ne, cm_lt, cm_le, cm_gt, cm_ge, eq_int, eq_str, eq_bytes, tr_int, tr_bool, cd_int, cd_str, cd_bytes, cd_none, cd_bool, nocontains, String.reduceEq, if_true, if_false, Bool.false_eq_true, Option.map_some, ex_tup_call, ex_tup_disp, namesOf_nil, namesOf_name, putsO_some, puts_nil, puts_cons, tupV_some, tupD_some, evCO_some, evC_nil, evC_step, consC_some, List.map_cons, List.map_nil, methN_own, ev_meth_name, ev_meth_const, ev_meth_sub, ev_meth_call, callM_some, beq_self_eq_true, Bool.and_self, Bool.and_true, Nat.reduceLT, listO_s, tupO_s, List.length_cons, List.length_nil, Nat.reduceAdd, Nat.reduceLeDiff, methN_val, List.all_nil, List.all_cons, decide_true, decide_false, List.take_succ_cons, List.take_zero, List.nil_append, List.cons_append, getV_put, hput, nP_c, nP_i, nP_d, hI, hc, hn]
theorem wP_4 (ht : t = [] ∨ ∃ c0, t = [vS "c" c0]) {c d : Str} (hI : index (.str s) (.int i) = some (.str c)) (hc : (c = Str.ofString "\"") = True) (hn : (i + 1 ≥ n) = False) (hJ : index (.str s) (.int (i + 1)) = some (.str d)) (hd : (d = Str.ofString "\"") = False) :
    exs Φ ({} : Pol) nP (inner? bP 5) ([vS "resp" s, vS "dirname" dn, vI "i" i, vI "n" n] ++ t) = some (Fl.brk, [vS "resp" s, vS "dirname" dn, vI "i" (i + 1), vI "n" n, vS "c" c]) := by
  obtain hput := put_c ht
  conv => lhs; arg 4; whnf
  simp only [exs_nil, exs_cons, andThen_next, andThen_brk, andThen_ret, ifS_true, ifS_false, ex_if, ex_pass, ex_break, retS_some, ex_ret, asgS_some, ex_asg, augS_some, ex_aug, appS_some, ex_app, forS_some, ex_for, ex_while, ev_const, ev_name, bin2_some, ev_bin, negO_some, ev_neg, ifE_true, ifE_false, ev_if, ev_list, ev_tuple, cons2_some, evs_nil, evs_cons, cmp2_some, evT_cmp, ev_cmp, truthO_some, evT_name, evT_bin, evT_and, evT_or, evT_not, andS_true, andS_false, orS_true, orS_false, evA_nil, evR_nil, evA_cons, evR_cons, ev_call, evT_call, slice4_some, ev_slice, evO_none, evO_some, idxO_some, ev_idx_name, ev_idx_const, ev_idx_bin, ev_idx_un, ev_comp, evI_name, evI_list, evI_slice, evI_range, rangeO_some, getV_val, getV_own, lookup_s, put_nil, put_s, freeze_miss, freeze0, own0, asg0, aug0, for0, eq_self, not_false_eq_true, not_true_eq_false, vI, vS, vB, vL, vO, bo_addI, bo_subI, bo_andI, cm_eq, cm_ne, cm_lt, cm_le, cm_gt, cm_ge, eq_int, eq_str, eq_bytes, tr_int, tr_bool, cd_int, cd_str, cd_bytes, cd_none, cd_bool, nocontains, String.reduceEq, if_true, if_false, Bool.false_eq_true, Option.map_some, ex_tup_call, ex_tup_disp, namesOf_nil, namesOf_name, putsO_some, puts_nil, puts_cons, tupV_some, tupD_some, evCO_some, evC_nil, evC_step, consC_some, List.map_cons, List.map_nil, methN_own, ev_meth_name, ev_meth_const, ev_meth_sub, ev_meth_call, callM_some, beq_self_eq_true, Bool.and_self, Bool.and_true, Nat.reduceLT, listO_s, tupO_s, List.length_cons, List.length_nil, Nat.reduceAdd, Nat.reduceLeDiff, methN_val, List.all_nil, List.all_cons, decide_true, decide_false, List.take_succ_cons, List.take_zero, List.nil_append, List.cons_append, getV_put, hput, nP_c, nP_i, nP_d, hI, hJ, hc, hd, hn, Bool.not_true, Bool.not_false]
end

theorem q_is (c : Nat) : (sl [c] = Str.ofString "\"") = (c = 34) := by
  rw [show Str.ofString "\"" = sl [34] by decide +kernel, sl_inj]
  simp

theorem scan_ne {c : Nat} {r : List Nat} (h : c ≠ 34) : scan (c :: r) = c :: scan r := by
  rw [scan.eq_4 c r (fun _ e _ => h e) (fun e => h e)]

theorem wP_loop (Φ : Fns) : ∀ (m : Nat) (r pre dn : List Nat) (t : Rho) (fuel : Nat), r.length ≤ m → (t = [] ∨ ∃ c0, t = [vS "c" c0]) → (pre ++ r).length ≤ 1000000 → dn.length + r.length ≤ 1000000 → r.length < fuel →
    ∃ ρ', loopW (evT Φ (tst? bP 5) nP) (exs Φ ({} : Pol) nP (inner? bP 5)) fuel ([vS "resp" (sl (pre ++ r)), vS "dirname" (sl dn), vI "i" pre.length, vI "n" (pre ++ r).length] ++ t) = some (.next, ρ') ∧ getV ρ' (Str.ofString "dirname") = some (.str (sl (dn ++ scan r)))
  | m, r, pre, dn, t, 0, _, ht, h1, h2, hf => by omega
  | m, [], pre, dn, t, fuel + 1, _, ht, h1, h2, hf => by
    refine ⟨[vS "resp" (sl (pre ++ [])), vS "dirname" (sl dn), vI "i" pre.length, vI "n" (pre ++ ([] : List Nat)).length] ++ t, ?_, ?_⟩
    · rw [loopW, wP_test]
      have : ¬ ((pre.length : Int) < ((pre ++ ([] : List Nat)).length : Int)) := by simp
      rw [decide_eq_false this]; rfl
    · simp only [scan, List.append_nil]
      simp [getV_val]
  | 0, _ :: _, pre, dn, t, fuel + 1, hm, ht, h1, h2, hf => by simp at hm
  | m + 1, c :: r, pre, dn, t, fuel + 1, hm, ht, h1, h2, hf => by
    have hlt : (pre.length : Int) < ((pre ++ c :: r).length : Int) := by rw [List.length_append, List.length_cons]; omega
    have hcap : (pre ++ c :: r).length ≤ cap := Nat.le_trans h1 (by decide)
    have hI : index (.str (sl (pre ++ c :: r))) (.int (pre.length : Int)) = some (.str (sl [c])) := indexS (by simp) hcap
    simp only [List.length_append, List.length_cons] at h1 h2 hf hm
    rw [loopW, wP_test, decide_eq_true hlt]
    have hd1 : ∀ x, (sl dn).length + (sl [x]).length ≤ cap := fun x => by rw [sl_len, sl_len]; simp only [List.length_cons, List.length_nil]; exact Nat.le_trans (by omega : _ ≤ 1000001) (by decide)
    by_cases hc : c = 34
    · subst hc
      have hq : (sl [34] = Str.ofString "\"") = True := by rw [q_is]; simp
      cases r with
      | nil =>
        have hn : ((pre.length : Int) + 1 ≥ ((pre ++ [34]).length : Int)) = True := eq_true (by rw [List.length_append]; simp)
        rw [wP_3 Φ _ _ _ _ _ ht hI hq hn]
        exact ⟨_, rfl, by simp [getV_val, scan]⟩
      | cons d r =>
        have hn : ((pre.length : Int) + 1 ≥ ((pre ++ 34 :: d :: r).length : Int)) = False := eq_false (by
          simp only [List.length_append, List.length_cons]; omega)
        have hJ : index (.str (sl (pre ++ 34 :: d :: r))) (.int ((pre.length : Int) + 1)) = some (.str (sl [d])) := by
          have := indexS (l := pre ++ 34 :: d :: r) (k := pre.length + 1) (c := d) (by simp) hcap
          simpa using this
        by_cases hd : d = 34
        · subst hd
          rw [wP_2 Φ _ _ _ _ _ ht hI hq hn hJ (hd1 34), lw_next]
          simp only [List.length_cons] at h1 h2 hf hm
          obtain ⟨ρ', e1, e2⟩ := wP_loop Φ m r (pre ++ [34, 34]) (dn ++ [34]) [vS "c" (sl [34])] fuel (by omega) (.inr ⟨_, rfl⟩) (by simp only [List.length_append, List.length_cons, List.length_nil]; omega) (by simp only [List.length_append, List.length_cons, List.length_nil]; omega) (by omega)
          refine ⟨ρ', ?_, ?_⟩
          · rw [sl_app]
            rw [← e1]
            simp only [List.append_assoc, List.cons_append, List.nil_append, List.length_append, List.length_cons, List.length_nil]
            congr 5
            all_goals (try simp) <;> omega
          · rw [e2, scan]; simp
        · have hdq : (sl [d] = Str.ofString "\"") = False := by rw [q_is]; simpa using hd
          rw [wP_4 Φ _ _ _ _ _ ht hI hq hn hJ hdq]
          refine ⟨_, rfl, ?_⟩
          have : scan (34 :: d :: r) = [] := by rw [scan.eq_3 (d :: r) (fun r' e => hd (by cases e; rfl))]
          rw [this]
          simp [getV_val]
    · have hq : (sl [c] = Str.ofString "\"") = False := by rw [q_is]; simpa using hc
      rw [wP_1 Φ _ _ _ _ _ ht hI hq (hd1 c), lw_next]
      obtain ⟨ρ', e1, e2⟩ := wP_loop Φ m r (pre ++ [c]) (dn ++ [c]) [vS "c" (sl [c])] fuel (by omega) (.inr ⟨_, rfl⟩) (by simp only [List.length_append, List.length_cons, List.length_nil]; omega) (by simp only [List.length_append, List.length_cons, List.length_nil]; omega) (by omega)
      refine ⟨ρ', ?_, ?_⟩
      · rw [sl_app]
        rw [← e1]
        simp only [List.append_assoc, List.cons_append, List.nil_append, List.length_append, List.length_cons, List.length_nil]
        rfl
      · rw [e2, scan_ne hc]; simp

theorem s257 : Str.ofString "257" = sl [50, 53, 55] := by decide +kernel
theorem ssq : Str.ofString " \"" = sl [32, 34] := by decide +kernel
theorem sempty : Str.ofString "" = sl [] := by decide +kernel
theorem take3 (l : List Nat) (h : l.length ≤ 999990) : slice (.str (sl (50 :: 53 :: 55 :: l))) .none (.int 3) .none = some (.str (sl [50, 53, 55])) := by
  rw [sliceS pt_none (pt_int (by decide) (by decide)) (cap_le (by simp only [List.length_cons]; omega))]
  have := pk_take (50 :: 53 :: 55 :: l) 3
  rw [show (3 : Int) = ((3 : Nat) : Int) from rfl, this]; rfl
theorem mid35 (a b : Nat) (l : List Nat) (h : l.length ≤ 999980) : slice (.str (sl (50 :: 53 :: 55 :: a :: b :: l))) (.int 3) (.int 5) .none = some (.str (sl [a, b])) := by
  rw [sliceS (pt_int (by decide) (by decide)) (pt_int (by decide) (by decide)) (cap_le (by simp only [List.length_cons]; omega)), show (3 : Int) = ((3 : Nat) : Int) from rfl, show (5 : Int) = ((5 : Nat) : Int) from rfl, pk_mid _ _ _ (Nat.le_add_left 5 l.length)]
  rfl

theorem run_P (Φ : Fns) (l : List Nat) (h : l.length ≤ 99000) : ∃ ρ', exs Φ ({} : Pol) nP bP [vS "resp" (sl (50 :: 53 :: 55 :: 32 :: 34 :: l))] = some (.ret (.str (sl (scan l))), ρ') := by
  rw [exs_at Φ _ _ _ (k := 5) (st := .While (tst? bP 5) (inner? bP 5) [] (pos? bP 5)) rfl]
  have e1 := take3 (32 :: 34 :: l) (by simp only [List.length_cons]; omega)
  have e2 := mid35 32 34 l (by omega)
  have e3 : builtin? (Str.ofString "len") [.str (sl (50 :: 53 :: 55 :: 32 :: 34 :: l))] = some (.int ((50 :: 53 :: 55 :: 32 :: 34 :: l).length : Nat)) := lenS (cap_le (by simp only [List.length_cons]; omega))
  have b1 : builtinNames.contains (Str.ofString "len") = true := by decide +kernel
  have head : exs Φ ({} : Pol) nP (bP.take 5) [vS "resp" (sl (50 :: 53 :: 55 :: 32 :: 34 :: l))] = some (.next, [vS "resp" (sl (50 :: 53 :: 55 :: 32 :: 34 :: l)), vS "dirname" (sl []), vI "i" 5, vI "n" ((50 :: 53 :: 55 :: 32 :: 34 :: l).length : Nat)]) := by
    conv => lhs; arg 4; whnf
    simp only [exs_nil, exs_cons, andThen_next, andThen_brk, andThen_ret, ifS_true, ifS_false, ex_if, ex_pass, ex_break, retS_some, ex_ret, asgS_some, ex_asg, augS_some, ex_aug, appS_some, ex_app, forS_some, ex_for, ex_while, ev_const, ev_name, bin2_some, ev_bin, negO_some, ev_neg, ifE_true, ifE_false, ev_if, ev_list, ev_tuple, cons2_some, evs_nil, evs_cons, cmp2_some, evT_cmp, ev_cmp, truthO_some, evT_name, evT_bin, evT_and, evT_or, evT_not, andS_true, andS_false, orS_true, orS_false, evA_nil, evR_nil, evA_cons, evR_cons, ev_call, evT_call, slice4_some, ev_slice, evO_none, evO_some, idxO_some, ev_idx_name, ev_idx_const, ev_idx_bin, ev_idx_un, ev_comp, evI_name, evI_list, evI_slice, evI_range, rangeO_some, getV_val, getV_own, lookup_s, put_nil, put_s, freeze_miss, freeze0, own0, asg0, aug0, for0, eq_self, not_false_eq_true, not_true_eq_false, vI, vS, vB, vL, vO, bo_addI, bo_subI, bo_andI, cm_eq, cm_ne, cm_lt, cm_le, cm_gt, cm_ge, eq_int, eq_str, eq_bytes, tr_int, tr_bool, cd_int, cd_str, cd_bytes, cd_none, cd_bool, nocontains, String.reduceEq, if_true, if_false, Bool.false_eq_true, Option.map_some, ex_tup_call, ex_tup_disp, namesOf_nil, namesOf_name, putsO_some, puts_nil, puts_cons, tupV_some, tupD_some, evCO_some, evC_nil, evC_step, consC_some, List.map_cons, List.map_nil, methN_own, ev_meth_name, ev_meth_const, ev_meth_sub, ev_meth_call, callM_some, beq_self_eq_true, Bool.and_self, Bool.and_true, Nat.reduceLT, listO_s, tupO_s, List.length_cons, List.length_nil, Nat.reduceAdd, Nat.reduceLeDiff, methN_val, List.all_nil, List.all_cons, decide_true, decide_false, List.take_succ_cons, List.take_zero, List.nil_append, List.cons_append, e1, e2, s257, ssq, sempty, Bool.not_true, callF_bi _ b1, nP_len, nP_d, nP_i, nP_n, e3]
  rw [head, andThen_next, exs_cons, ex_while]
  obtain ⟨ρ', w1, w2⟩ := wP_loop Φ l.length l [50, 53, 55, 32, 34] [] [] 100000 (Nat.le_refl _) (.inl rfl) (by simp only [List.length_append, List.length_cons, List.length_nil]; omega) (by simp only [List.length_nil]; omega) (by omega)
  have w1' : loopW (evT Φ (tst? bP 5) nP) (exs Φ ({} : Pol) nP (inner? bP 5)) ({} : Pol).fuel (freeze ({} : Pol) (pos? bP 5).line [vS "resp" (sl (50 :: 53 :: 55 :: 32 :: 34 :: l)), vS "dirname" (sl []), vI "i" 5, vI "n" ((50 :: 53 :: 55 :: 32 :: 34 :: l).length : Nat)]) = some (.next, ρ') := by
    rw [freeze0]; exact w1
  rw [w1', andThen_next]
  refine ⟨ρ', ?_⟩
  conv => lhs; arg 4; whnf
  simp only [exs_nil, exs_cons, andThen_next, andThen_brk, andThen_ret, ifS_true, ifS_false, ex_if, ex_pass, ex_break, retS_some, ex_ret, asgS_some, ex_asg, augS_some, ex_aug, appS_some, ex_app, forS_some, ex_for, ex_while, ev_const, ev_name, bin2_some, ev_bin, negO_some, ev_neg, ifE_true, ifE_false, ev_if, ev_list, ev_tuple, cons2_some, evs_nil, evs_cons, cmp2_some, evT_cmp, ev_cmp, truthO_some, evT_name, evT_bin, evT_and, evT_or, evT_not, andS_true, andS_false, orS_true, orS_false, evA_nil, evR_nil, evA_cons, evR_cons, ev_call, evT_call, slice4_some, ev_slice, evO_none, evO_some, idxO_some, ev_idx_name, ev_idx_const, ev_idx_bin, ev_idx_un, ev_comp, evI_name, evI_list, evI_slice, evI_range, rangeO_some, getV_val, getV_own, lookup_s, put_nil, put_s, freeze_miss, freeze0, own0, asg0, aug0, for0, eq_self, not_false_eq_true, not_true_eq_false, vI, vS, vB, vL, vO, bo_addI, bo_subI, bo_andI, cm_eq, cm_ne, cm_lt, cm_le, cm_gt, cm_ge, eq_int, eq_str, eq_bytes, tr_int, tr_bool, cd_int, cd_str, cd_bytes, cd_none, cd_bool, nocontains, String.reduceEq, if_true, if_false, Bool.false_eq_true, Option.map_some, ex_tup_call, ex_tup_disp, namesOf_nil, namesOf_name, putsO_some, puts_nil, puts_cons, tupV_some, tupD_some, evCO_some, evC_nil, evC_step, consC_some, List.map_cons, List.map_nil, methN_own, ev_meth_name, ev_meth_const, ev_meth_sub, ev_meth_call, callM_some, beq_self_eq_true, Bool.and_self, Bool.and_true, Nat.reduceLT, listO_s, tupO_s, List.length_cons, List.length_nil, Nat.reduceAdd, Nat.reduceLeDiff, methN_val, List.all_nil, List.all_cons, decide_true, decide_false, List.take_succ_cons, List.take_zero, List.nil_append, List.cons_append, w2]

theorem run_P0 (Φ : Fns) (a b : Nat) (l : List Nat) (h : l.length ≤ 99000) (hne : [a, b] ≠ [32, 34]) : ∃ ρ', exs Φ ({} : Pol) nP bP [vS "resp" (sl (50 :: 53 :: 55 :: a :: b :: l))] = some (.ret (.str (sl [])), ρ') := by
  have e1 := take3 (a :: b :: l) (by simp only [List.length_cons]; omega)
  have e2 := mid35 a b l (by omega)
  have hne' : (sl [a, b] = sl [32, 34]) = False := eq_false (by rw [sl_inj]; exact hne)
  refine ⟨[vS "resp" (sl (50 :: 53 :: 55 :: a :: b :: l))], ?_⟩
  conv => lhs; arg 4; whnf
  simp only [exs_nil, exs_cons, andThen_next, andThen_brk, andThen_ret, ifS_true, ifS_false, ex_if, ex_pass, ex_break, retS_some, ex_ret, asgS_some, ex_asg, augS_some, ex_aug, appS_some, ex_app, forS_some, ex_for, ex_while, ev_const, ev_name, bin2_some, ev_bin, negO_some, ev_neg, ifE_true, ifE_false, ev_if, ev_list, ev_tuple, cons2_some, evs_nil, evs_cons, cmp2_some, evT_cmp, ev_cmp, truthO_some, evT_name, evT_bin, evT_and, evT_or, evT_not, andS_true, andS_false, orS_true, orS_false, evA_nil, evR_nil, evA_cons, evR_cons, ev_call, evT_call, slice4_some, ev_slice, evO_none, evO_some, idxO_some, ev_idx_name, ev_idx_const, ev_idx_bin, ev_idx_un, ev_comp, evI_name, evI_list, evI_slice, evI_range, rangeO_some, getV_val, getV_own, lookup_s, put_nil, put_s, freeze_miss, freeze0, own0, asg0, aug0, for0, eq_self, not_false_eq_true, not_true_eq_false, vI, vS, vB, vL, vO, bo_addI, bo_subI, bo_andI, cm_eq, cm_ne, cm_lt, cm_le, cm_gt, cm_ge, eq_int, eq_str, eq_bytes, tr_int, tr_bool, cd_int, cd_str, cd_bytes, cd_none, cd_bool, nocontains, String.reduceEq, if_true, if_false, Bool.false_eq_true, Option.map_some, ex_tup_call, ex_tup_disp, namesOf_nil, namesOf_name, putsO_some, puts_nil, puts_cons, tupV_some, tupD_some, evCO_some, evC_nil, evC_step, consC_some, List.map_cons, List.map_nil, methN_own, ev_meth_name, ev_meth_const, ev_meth_sub, ev_meth_call, callM_some, beq_self_eq_true, Bool.and_self, Bool.and_true, Nat.reduceLT, listO_s, tupO_s, List.length_cons, List.length_nil, Nat.reduceAdd, Nat.reduceLeDiff, methN_val, List.all_nil, List.all_cons, decide_true, decide_false, List.take_succ_cons, List.take_zero, List.nil_append, List.cons_append, e1, e2, s257, ssq, sempty, hne', Bool.not_true, Bool.not_false]
end Mine
end
section
open PySem
set_option maxRecDepth 100000
set_option Elab.async false
set_option linter.unusedSimpArgs false
set_option linter.unusedVariables false
set_option maxHeartbeats 4000000
namespace Mine
-- Int2AP
noncomputable def nI : Names := fnames p1 2
noncomputable def bI : List Stmt := fbody p1 2
theorem nI_num : stOk nI (Str.ofString "num") = true := by decide +kernel
theorem nI_val : stOk nI (Str.ofString "val") = true := by decide +kernel
theorem nI_AP : stOk nI (Str.ofString "AP") = true := by decide +kernel
theorem nI_t : tupOk ({} : Pol) nI [Str.ofString "num", Str.ofString "mod"] = true := by decide +kernel
theorem nI_dm : nI.lookup (Str.ofString "divmod") = some .globalImplicit := by decide +kernel
theorem nI_int : nI.lookup (Str.ofString "int") = some .globalImplicit := by decide +kernel
theorem nI_abs : nI.lookup (Str.ofString "abs") = some .globalImplicit := by decide +kernel
theorem b_dm : builtinNames.contains (Str.ofString "divmod") = true := by decide +kernel
theorem b_int : builtinNames.contains (Str.ofString "int") = true := by decide +kernel
theorem b_abs : builtinNames.contains (Str.ofString "abs") = true := by decide +kernel
noncomputable def alph : List UInt8 := [65, 66, 67, 68, 69, 70, 71, 72, 73, 74, 75, 76, 77, 78, 79, 80]
/-- the letters of a number, f at most -/
noncomputable def hexF : Nat → Nat → List UInt8
  | 0, _ => []
  | f + 1, n => if n = 0 then [] else hexF f (n / 16) ++ [UInt8.ofNat (65 + n % 16)]
theorem bi_dm (n : Nat) : builtin? (Str.ofString "divmod") [.int n, .int 16] = some (.tuple [.int (n / 16 : Nat), .int (n % 16 : Nat)]) := by
  have e : builtin? (Str.ofString "divmod") [.int n, .int 16] = some (.tuple [.int ((n : Int).fdiv 16), .int ((n : Int).fmod 16)]) := by
    refine ((if_neg (by decide +kernel)).trans ((if_neg (by decide +kernel)).trans (if_pos rfl))).trans ?_
    exact if_pos (c := (decide ((16 : Int) ≠ 0) && decide ((16 : Int).natAbs < 1073741824)) = true) (e := none) (by decide +kernel)
  rw [e, Int.fdiv_eq_ediv_of_nonneg _ (by decide), Int.fmod_eq_emod_of_nonneg _ (by decide)]
  rfl
theorem bi_int (n : Int) : builtin? (Str.ofString "int") [.int n] = some (.int n) := by
  unfold builtin?
  rw [if_neg (by decide +kernel), if_neg (by decide +kernel), if_neg (by decide +kernel), if_pos rfl]; rfl
theorem bi_abs (n : Int) : builtin? (Str.ofString "abs") [.int n] = some (.int n.natAbs) := by
  unfold builtin?
  rw [if_neg (by decide +kernel), if_neg (by decide +kernel), if_neg (by decide +kernel), if_neg (by decide +kernel), if_pos rfl]; rfl
theorem alph_at : ∀ m, m < 16 → (alph.drop m).take 1 = [UInt8.ofNat (65 + m)] := by decide

section
variable (Φ : Fns) (n : Nat) (v : List UInt8) (t : Rho)
theorem wI_test (AL : List UInt8) : evT Φ (tst? bI 3) nI ([vI "num" n, vB "val" v, vB "AP" AL] ++ t) = some (decide ((n : Int) ≠ 0)) := by
  conv => lhs; arg 2; whnf
  simp only [exs_nil, exs_cons, andThen_next, andThen_brk, andThen_ret, ifS_true, ifS_false, ex_if, ex_pass, ex_break, retS_some, ex_ret, asgS_some, ex_asg, augS_some, ex_aug, appS_some, ex_app, forS_some, ex_for, ex_while, ev_const, ev_name, bin2_some, ev_bin, negO_some, ev_neg, ifE_true, ifE_false, ev_if, ev_list, ev_tuple, cons2_some, evs_nil, evs_cons, cmp2_some, evT_cmp, ev_cmp, truthO_some, evT_name, evT_bin, evT_and, evT_or, evT_not, andS_true, andS_false, orS_true, orS_false, evA_nil, evR_nil, evA_cons, evR_cons, ev_call, evT_call, slice4_some, ev_slice, evO_none, evO_some, idxO_some, ev_idx_name, ev_idx_const, ev_idx_bin, ev_idx_un, ev_comp, evI_name, evI_list, evI_slice, evI_range, rangeO_some, getV_val, getV_own, lookup_s, put_nil, put_s, freeze_miss, freeze0, own0, asg0, aug0, for0, eq_self, not_false_eq_true, not_true_eq_false, vI, vS, vB, vL, vO, bo_addI, bo_subI, bo_andI, cm_eq, cm_ne, cm_lt, cm_le, cm_gt, cm_ge, eq_int, eq_str, eq_bytes, tr_int, tr_bool, cd_int, cd_str, cd_bytes, cd_none, cd_bool, nocontains, String.reduceEq, if_true, if_false, Bool.false_eq_true, Option.map_some, ex_tup_call, ex_tup_disp, namesOf_nil, namesOf_name, putsO_some, puts_nil, puts_cons, tupV_some, tupD_some, evCO_some, evC_nil, evC_step, consC_some, List.map_cons, List.map_nil, methN_own, ev_meth_name, ev_meth_const, ev_meth_sub, ev_meth_call, callM_some, beq_self_eq_true, Bool.and_self, Bool.and_true, Nat.reduceLT, listO_s, tupO_s, List.length_cons, List.length_nil, Nat.reduceAdd, Nat.reduceLeDiff, methN_val, List.all_nil, List.all_cons, decide_true, decide_false, List.take_succ_cons, List.take_zero, List.nil_append, List.cons_append]
theorem wI_s : slice (.bytes alph) (.int (n % 16 : Nat)) (.int ((n % 16 : Nat) + 1)) .none = some (.bytes [UInt8.ofNat (65 + n % 16)]) := by
  have hm : n % 16 < 16 := Nat.mod_lt _ (by decide)
  rw [sliceB (pt_int (by omega) (by omega)) (pt_int (by omega) (by omega)) (Nat.le_trans (show alph.length ≤ 16 from Nat.le_refl _) (by decide))]
  have := pk_mid alph (n % 16) (n % 16 + 1) (by show n % 16 + 1 ≤ 16; omega)
  rw [show ((n % 16 : Nat) : Int) + 1 = ((n % 16 + 1 : Nat) : Int) by omega, this, show n % 16 + 1 - n % 16 = 1 by omega, alph_at _ hm]
theorem wI_1 (AL : List UInt8) (ht : t = [] ∨ ∃ c0, t = [vI "mod" c0]) (x : List UInt8) (a q r : Int) (hdm : builtin? (Str.ofString "divmod") [.int a, .int 16] = some (.tuple [.int q, .int r])) (hs : slice (.bytes AL) (.int r) (.int (r + 1)) .none = some (.bytes x)) (ha : binop .Add (.bytes x) (.bytes v) = some (.bytes (x ++ v))) :
    exs Φ ({} : Pol) nI (inner? bI 3) ([vI "num" a, vB "val" v, vB "AP" AL] ++ t) = some (Fl.next, [vI "num" q, vB "val" (x ++ v), vB "AP" AL, vI "mod" r]) := by
  conv => lhs; arg 4; whnf
  rcases ht with rfl | ⟨c0, rfl⟩ <;> simp only [exs_nil, exs_cons, andThen_next, andThen_brk, andThen_ret, ifS_true, ifS_false, ex_if, ex_pass, ex_break, retS_some, ex_ret, asgS_some, ex_asg, augS_some, ex_aug, appS_some, ex_app, forS_some, ex_for, ex_while, ev_const, ev_name, bin2_some, ev_bin, negO_some, ev_neg, ifE_true, ifE_false, ev_if, ev_list, ev_tuple, cons2_some, evs_nil, evs_cons, cmp2_some, evT_cmp, ev_cmp, truthO_some, evT_name, evT_bin, evT_and, evT_or, evT_not, andS_true, andS_false, orS_true, orS_false, evA_nil, evR_nil, evA_cons, evR_cons, ev_call, evT_call, slice4_some, ev_slice, evO_none, evO_some, idxO_some, ev_idx_name, ev_idx_const, ev_idx_bin, ev_idx_un, ev_comp, evI_name, evI_list, evI_slice, evI_range, rangeO_some, getV_val, getV_own, lookup_s, put_nil, put_s, freeze_miss, freeze0, own0, asg0, aug0, for0, eq_self, not_false_eq_true, not_true_eq_false, vI, vS, vB, vL, vO, bo_addI, bo_subI, bo_andI, cm_eq, cm_ne, cm_lt, cm_le, cm_gt, cm_ge, eq_int, eq_str, eq_bytes, tr_int, tr_bool, cd_int, cd_str, cd_bytes, cd_none, cd_bool, nocontains, String.reduceEq, if_true, if_false, Bool.false_eq_true, Option.map_some, ex_tup_call, ex_tup_disp, namesOf_nil, namesOf_name, putsO_some, puts_nil, puts_cons, tupV_some, tupD_some, evCO_some, evC_nil, evC_step, consC_some, List.map_cons, List.map_nil, methN_own, ev_meth_name, ev_meth_const, ev_meth_sub, ev_meth_call, callM_some, beq_self_eq_true, Bool.and_self, Bool.and_true, Nat.reduceLT, listO_s, tupO_s, List.length_cons, List.length_nil, Nat.reduceAdd, Nat.reduceLeDiff, methN_val, List.all_nil, List.all_cons, decide_true, decide_false, List.take_succ_cons, List.take_zero, List.nil_append, List.cons_append, nI_num, nI_val, tupV_some nI_t, nI_dm, callF_bi _ b_dm, hdm, hs, ha, List.length_cons, List.length_nil]
end
theorem wI_loop (Φ : Fns) : ∀ (f n : Nat) (v : List UInt8) (t : Rho) (fuel : Nat), n < 16 ^ f → (t = [] ∨ ∃ c0, t = [vI "mod" c0]) → v.length + f ≤ 1000 → f < fuel →
    ∃ ρ', loopW (evT Φ (tst? bI 3) nI) (exs Φ ({} : Pol) nI (inner? bI 3)) fuel ([vI "num" n, vB "val" v, vB "AP" alph] ++ t) = some (.next, ρ') ∧ getV ρ' (Str.ofString "val") = some (.bytes (hexF f n ++ v))
  | f, n, v, t, 0, _, _, _, h => by omega
  | f, 0, v, t, fuel + 1, _, _, _, h => by
    refine ⟨[vI "num" (0 : Nat), vB "val" v, vB "AP" alph] ++ t, ?_, ?_⟩
    · rw [loopW, wI_test]; rfl
    · have : hexF f 0 = [] := by cases f <;> rfl
      rw [this]
      simp [getV_val]
  | 0, n + 1, v, t, fuel + 1, hn, _, _, h => by simp at hn
  | f + 1, n + 1, v, t, fuel + 1, hn, ht, hv, h => by
    have hne : ((n + 1 : Nat) : Int) ≠ 0 := by omega
    rw [loopW, wI_test, decide_eq_true hne, wI_1 Φ _ _ _ ht _ _ _ _ (bi_dm (n + 1)) (wI_s (n + 1)) (bo_addB (by simp only [List.length_cons, List.length_nil]; exact cap_le (by omega))), lw_next]
    obtain ⟨ρ', e1, e2⟩ := wI_loop Φ f ((n + 1) / 16) ([UInt8.ofNat (65 + (n + 1) % 16)] ++ v) [vI "mod" ((n + 1) % 16 : Nat)] fuel (by rw [Nat.pow_succ] at hn; omega) (.inr ⟨_, rfl⟩) (by simp only [List.length_append, List.length_cons, List.length_nil]; omega) (by omega)
    refine ⟨ρ', e1, ?_⟩
    rw [e2, hexF, if_neg (by omega), List.append_assoc]

theorem run_I (Φ : Fns) (i : Int) (h : i.natAbs < 16 ^ 40) : ∃ ρ', exs Φ ({} : Pol) nI bI [vI "num" i] = some (.ret (.bytes (hexF 40 i.natAbs)), ρ') := by
  rw [exs_at Φ _ _ _ (k := 3) (st := .While (tst? bI 3) (inner? bI 3) [] (pos? bI 3)) rfl]
  have head : exs Φ ({} : Pol) nI (bI.take 3) [vI "num" i] = some (.next, [vI "num" i.natAbs, vB "val" [], vB "AP" alph]) := by
    conv => lhs; arg 4; whnf
    simp only [exs_nil, exs_cons, andThen_next, andThen_brk, andThen_ret, ifS_true, ifS_false, ex_if, ex_pass, ex_break, retS_some, ex_ret, asgS_some, ex_asg, augS_some, ex_aug, appS_some, ex_app, forS_some, ex_for, ex_while, ev_const, ev_name, bin2_some, ev_bin, negO_some, ev_neg, ifE_true, ifE_false, ev_if, ev_list, ev_tuple, cons2_some, evs_nil, evs_cons, cmp2_some, evT_cmp, ev_cmp, truthO_some, evT_name, evT_bin, evT_and, evT_or, evT_not, andS_true, andS_false, orS_true, orS_false, evA_nil, evR_nil, evA_cons, evR_cons, ev_call, evT_call, slice4_some, ev_slice, evO_none, evO_some, idxO_some, ev_idx_name, ev_idx_const, ev_idx_bin, ev_idx_un, ev_comp, evI_name, evI_list, evI_slice, evI_range, rangeO_some, getV_val, getV_own, lookup_s, put_nil, put_s, freeze_miss, freeze0, own0, asg0, aug0, for0, eq_self, not_false_eq_true, not_true_eq_false, vI, vS, vB, vL, vO, bo_addI, bo_subI, bo_andI, cm_eq, cm_ne, cm_lt, cm_le, cm_gt, cm_ge, eq_int, eq_str, eq_bytes, tr_int, tr_bool, cd_int, cd_str, cd_bytes, cd_none, cd_bool, nocontains, String.reduceEq, if_true, if_false, Bool.false_eq_true, Option.map_some, ex_tup_call, ex_tup_disp, namesOf_nil, namesOf_name, putsO_some, puts_nil, puts_cons, tupV_some, tupD_some, evCO_some, evC_nil, evC_step, consC_some, List.map_cons, List.map_nil, methN_own, ev_meth_name, ev_meth_const, ev_meth_sub, ev_meth_call, callM_some, beq_self_eq_true, Bool.and_self, Bool.and_true, Nat.reduceLT, listO_s, tupO_s, List.length_cons, List.length_nil, Nat.reduceAdd, Nat.reduceLeDiff, methN_val, List.all_nil, List.all_cons, decide_true, decide_false, List.take_succ_cons, List.take_zero, List.nil_append, List.cons_append, nI_num, nI_val, nI_AP, nI_int, nI_abs, callF_bi _ b_int, callF_bi _ b_abs, bi_int, bi_abs]
    rfl
  rw [head, andThen_next, exs_cons, ex_while]
  obtain ⟨ρ', w1, w2⟩ := wI_loop Φ 40 i.natAbs [] [] 100000 h (.inl rfl) (by decide) (by decide)
  have w1' : loopW (evT Φ (tst? bI 3) nI) (exs Φ ({} : Pol) nI (inner? bI 3)) ({} : Pol).fuel (freeze ({} : Pol) (pos? bI 3).line [vI "num" i.natAbs, vB "val" [], vB "AP" alph]) = some (.next, ρ') := by
    rw [freeze0]; exact w1
  rw [w1', andThen_next]
  refine ⟨ρ', ?_⟩
  conv => lhs; arg 4; whnf
  simp only [exs_nil, exs_cons, andThen_next, andThen_brk, andThen_ret, ifS_true, ifS_false, ex_if, ex_pass, ex_break, retS_some, ex_ret, asgS_some, ex_asg, augS_some, ex_aug, appS_some, ex_app, forS_some, ex_for, ex_while, ev_const, ev_name, bin2_some, ev_bin, negO_some, ev_neg, ifE_true, ifE_false, ev_if, ev_list, ev_tuple, cons2_some, evs_nil, evs_cons, cmp2_some, evT_cmp, ev_cmp, truthO_some, evT_name, evT_bin, evT_and, evT_or, evT_not, andS_true, andS_false, orS_true, orS_false, evA_nil, evR_nil, evA_cons, evR_cons, ev_call, evT_call, slice4_some, ev_slice, evO_none, evO_some, idxO_some, ev_idx_name, ev_idx_const, ev_idx_bin, ev_idx_un, ev_comp, evI_name, evI_list, evI_slice, evI_range, rangeO_some, getV_val, getV_own, lookup_s, put_nil, put_s, freeze_miss, freeze0, own0, asg0, aug0, for0, eq_self, not_false_eq_true, not_true_eq_false, vI, vS, vB, vL, vO, bo_addI, bo_subI, bo_andI, cm_eq, cm_ne, cm_lt, cm_le, cm_gt, cm_ge, eq_int, eq_str, eq_bytes, tr_int, tr_bool, cd_int, cd_str, cd_bytes, cd_none, cd_bool, nocontains, String.reduceEq, if_true, if_false, Bool.false_eq_true, Option.map_some, ex_tup_call, ex_tup_disp, namesOf_nil, namesOf_name, putsO_some, puts_nil, puts_cons, tupV_some, tupD_some, evCO_some, evC_nil, evC_step, consC_some, List.map_cons, List.map_nil, methN_own, ev_meth_name, ev_meth_const, ev_meth_sub, ev_meth_call, callM_some, beq_self_eq_true, Bool.and_self, Bool.and_true, Nat.reduceLT, listO_s, tupO_s, List.length_cons, List.length_nil, Nat.reduceAdd, Nat.reduceLeDiff, methN_val, List.all_nil, List.all_cons, decide_true, decide_false, List.take_succ_cons, List.take_zero, List.nil_append, List.cons_append, w2, List.append_nil]
end Mine
end
section
open PySem
set_option maxRecDepth 100000
set_option Elab.async false
set_option linter.unusedSimpArgs false
set_option linter.unusedVariables false
set_option maxHeartbeats 4000000
namespace Mine
-- _law_cells
noncomputable def nC : Names := fnames p1 13
noncomputable def bC : List Stmt := fbody p1 13
theorem nC_own : stOk nC (Str.ofString "own") = true := by decide +kernel
theorem nC_own' : nC.lookup (Str.ofString "own") = some .cell := by decide +kernel
theorem nC_scr' : nC.lookup (Str.ofString "script") = some .cell := by decide +kernel
theorem nC_rng : nC.lookup (Str.ofString "range") = some .globalImplicit := by decide +kernel
noncomputable def remL (is : List Int) (k m : Nat) : List Int := (pickL is (some (k : Int)) none (some (m : Int))).map (·.fmod 1000000)
theorem remL_b (is : List Int) (k m : Nat) : ∀ i ∈ remL is k m, 0 ≤ i ∧ i < 1000000 := by
  intro i hi
  obtain ⟨x, _, rfl⟩ := List.mem_map.mp hi
  have e : x.fmod 1000000 = x % 1000000 := Int.fmod_eq_emod_of_nonneg _ (by decide)
  show 0 ≤ x.fmod 1000000 ∧ x.fmod 1000000 < 1000000
  rw [e]
  exact ⟨Int.emod_nonneg _ (by decide), Int.emod_lt_of_pos _ (by decide)⟩
theorem sum_b : ∀ (l : List Int), (∀ i ∈ l, 0 ≤ i ∧ i < 1000000) → 0 ≤ l.sum ∧ l.sum ≤ 1000000 * l.length
  | [], _ => by simp
  | i :: r, h => by
    have := sum_b r (fun j hj => h j (.tail _ hj))
    have h1 := h i (.head _)
    rw [List.sum_cons, List.length_cons]
    omega
theorem remL_len (is : List Int) (k m : Nat) : (remL is k m).length ≤ is.length := by
  unfold remL
  rw [List.length_map]
  exact pickL_le ..
noncomputable def ownC (k : Nat) : Int := match k with | 0 => 2470 | 1 => 1 | 2 => 0 | 3 => 2 | _ => 5
noncomputable def cellC (is : List Int) (k : Nat) : Int := ownC k + (remL is k 5).sum
noncomputable def ownL : List D := [.int (ownC 0), .int (ownC 1), .int (ownC 2), .int (ownC 3), .int (ownC 4)]
theorem ownL_eq : [D.int 2470, .int 1, .int 0, .int 2, .int 5] = ownL := rfl
theorem ownL_len : ownL.length ≤ cap := le_cap (by decide)
theorem ix0 : index (.list ownL) (.int 0) = some (.int (ownC 0)) := indexL (k := 0) rfl ownL_len
theorem ix1 : index (.list ownL) (.int 1) = some (.int (ownC 1)) := indexL (k := 1) rfl ownL_len
theorem ix2 : index (.list ownL) (.int 2) = some (.int (ownC 2)) := indexL (k := 2) rfl ownL_len
theorem ix3 : index (.list ownL) (.int 3) = some (.int (ownC 3)) := indexL (k := 3) rfl ownL_len
theorem ix4 : index (.list ownL) (.int 4) = some (.int (ownC 4)) := indexL (k := 4) rfl ownL_len
section
variable (is : List Int) (h : is.length ≤ 63)
include h
theorem hsl (k : Nat) (hk : k ≤ 5) : slice (.list (is.map .int)) (.int (k : Int)) .none (.int 5) = some (.list ((pickL is (some (k : Int)) none (some 5)).map .int)) := by
  rw [sliceLst (pt_int (by omega) (by omega)) pt_none (pt_int (by decide) (by decide)) (by decide) (by rw [List.length_map]; exact le_cap (by omega)), pickL_map]
theorem hlenC (k : Nat) : (pickL is (some (k : Int)) none (some 5)).length ≤ 63 := Nat.le_trans (pickL_le ..) h
theorem hsumC (k : Nat) : builtin? (Str.ofString "sum") [.list ((remL is k 5).map .int)] = some (.int (remL is k 5).sum) := sum_ok (fun i hi => by have := remL_b is k 5 i hi; omega) (Nat.le_trans (remL_len ..) (by omega))
end
theorem run_C (Φ : Fns) (is : List Int) (h : is.length ≤ 63) : ∃ ρ', exs Φ ({} : Pol) nC bC [vL "script" (is.map .int)] = some (.ret (.list [.int (cellC is 0), .int (cellC is 1), .int (cellC is 2), .int (cellC is 3), .int (cellC is 4)]), ρ') := by
  refine ⟨[vL "script" (is.map .int), vL "own" ownL], ?_⟩
  have hs0 : slice (.list (is.map .int)) (.int 0) .none (.int 5) = some (.list ((pickL is (some 0) none (some 5)).map .int)) := hsl is h 0 (by decide)
  have hc0 : ((pickL is (some 0) none (some 5)).map D.int).length ≤ cap := by rw [List.length_map]; exact le_cap (Nat.le_trans (hlenC is h 0) (by decide))
  have hq0 : builtin? (Str.ofString "sum") [.list (((pickL is (some 0) none (some 5)).map (·.fmod 1000000)).map .int)] = some (.int (remL is 0 5).sum) := hsumC is h 0
  have hs1 : slice (.list (is.map .int)) (.int 1) .none (.int 5) = some (.list ((pickL is (some 1) none (some 5)).map .int)) := hsl is h 1 (by decide)
  have hc1 : ((pickL is (some 1) none (some 5)).map D.int).length ≤ cap := by rw [List.length_map]; exact le_cap (Nat.le_trans (hlenC is h 1) (by decide))
  have hq1 : builtin? (Str.ofString "sum") [.list (((pickL is (some 1) none (some 5)).map (·.fmod 1000000)).map .int)] = some (.int (remL is 1 5).sum) := hsumC is h 1
  have hs2 : slice (.list (is.map .int)) (.int 2) .none (.int 5) = some (.list ((pickL is (some 2) none (some 5)).map .int)) := hsl is h 2 (by decide)
  have hc2 : ((pickL is (some 2) none (some 5)).map D.int).length ≤ cap := by rw [List.length_map]; exact le_cap (Nat.le_trans (hlenC is h 2) (by decide))
  have hq2 : builtin? (Str.ofString "sum") [.list (((pickL is (some 2) none (some 5)).map (·.fmod 1000000)).map .int)] = some (.int (remL is 2 5).sum) := hsumC is h 2
  have hs3 : slice (.list (is.map .int)) (.int 3) .none (.int 5) = some (.list ((pickL is (some 3) none (some 5)).map .int)) := hsl is h 3 (by decide)
  have hc3 : ((pickL is (some 3) none (some 5)).map D.int).length ≤ cap := by rw [List.length_map]; exact le_cap (Nat.le_trans (hlenC is h 3) (by decide))
  have hq3 : builtin? (Str.ofString "sum") [.list (((pickL is (some 3) none (some 5)).map (·.fmod 1000000)).map .int)] = some (.int (remL is 3 5).sum) := hsumC is h 3
  have hs4 : slice (.list (is.map .int)) (.int 4) .none (.int 5) = some (.list ((pickL is (some 4) none (some 5)).map .int)) := hsl is h 4 (by decide)
  have hc4 : ((pickL is (some 4) none (some 5)).map D.int).length ≤ cap := by rw [List.length_map]; exact le_cap (Nat.le_trans (hlenC is h 4) (by decide))
  have hq4 : builtin? (Str.ofString "sum") [.list (((pickL is (some 4) none (some 5)).map (·.fmod 1000000)).map .int)] = some (.int (remL is 4 5).sum) := hsumC is h 4
  conv => lhs; arg 4; whnf
  simp only [exs_nil, exs_cons, andThen_next, andThen_brk, andThen_ret, ifS_true, ifS_false, ex_if, ex_pass, ex_break, retS_some, ex_ret, asgS_some, ex_asg, augS_some, ex_aug, appS_some, ex_app, forS_some, ex_for, ex_while, ev_const, ev_name, bin2_some, ev_bin, negO_some, ev_neg, ifE_true, ifE_false, ev_if, ev_list, ev_tuple, cons2_some, evs_nil, evs_cons, cmp2_some, evT_cmp, ev_cmp, truthO_some, evT_name, evT_bin, evT_and, evT_or, evT_not, andS_true, andS_false, orS_true, orS_false, evA_nil, evR_nil, evA_cons, evR_cons, ev_call, evT_call, slice4_some, ev_slice, evO_none, evO_some, idxO_some, ev_idx_name, ev_idx_const, ev_idx_bin, ev_idx_un, ev_comp, evI_name, evI_list, evI_slice, evI_range, rangeO_some, getV_val, getV_own, lookup_s, put_nil, put_s, freeze_miss, freeze0, own0, asg0, aug0, for0, eq_self, not_false_eq_true, not_true_eq_false, vI, vS, vB, vL, vO, bo_addI, bo_subI, bo_andI, cm_eq, cm_ne, cm_lt, cm_le, cm_gt, cm_ge, eq_int, eq_str, eq_bytes, tr_int, tr_bool, cd_int, cd_str, cd_bytes, cd_none, cd_bool, nocontains, String.reduceEq, if_true, if_false, Bool.false_eq_true, Option.map_some, ex_tup_call, ex_tup_disp, namesOf_nil, namesOf_name, putsO_some, puts_nil, puts_cons, tupV_some, tupD_some, evCO_some, evC_nil, evC_step, consC_some, List.map_cons, List.map_nil, methN_own, ev_meth_name, ev_meth_const, ev_meth_sub, ev_meth_call, callM_some, beq_self_eq_true, Bool.and_self, Bool.and_true, Nat.reduceLT, listO_s, tupO_s, List.length_cons, List.length_nil, Nat.reduceAdd, Nat.reduceLeDiff, methN_val, List.all_nil, List.all_cons, decide_true, decide_false, List.take_succ_cons, List.take_zero, List.nil_append, List.cons_append, nC_own, nC_rng, range5, ownL_eq, listO_some ownL_len]
  rw [compS_some]
  · simp only [inner_eq, evA_nil, fm_cons, List.filterMap_nil, lookup_k, nk_ff, nk_lf, nk_gf, nk_cc, String.reduceEq, if_true, if_false, Bool.and_true, Bool.false_and, Bool.and_false, Bool.false_eq_true, innerV_val, vL, vI, vS, vB, nC_own', nC_scr']
    rw [comp5 (x := .int (cellC is 0)) (y := .int (cellC is 1)) (z := .int (cellC is 2)) (u := .int (cellC is 3)) (v := .int (cellC is 4))]
    · simp only [exs_nil, exs_cons, andThen_next, andThen_brk, andThen_ret, ifS_true, ifS_false, ex_if, ex_pass, ex_break, retS_some, ex_ret, asgS_some, ex_asg, augS_some, ex_aug, appS_some, ex_app, forS_some, ex_for, ex_while, ev_const, ev_name, bin2_some, ev_bin, negO_some, ev_neg, ifE_true, ifE_false, ev_if, ev_list, ev_tuple, cons2_some, evs_nil, evs_cons, cmp2_some, evT_cmp, ev_cmp, truthO_some, evT_name, evT_bin, evT_and, evT_or, evT_not, andS_true, andS_false, orS_true, orS_false, evA_nil, evR_nil, evA_cons, evR_cons, ev_call, evT_call, slice4_some, ev_slice, evO_none, evO_some, idxO_some, ev_idx_name, ev_idx_const, ev_idx_bin, ev_idx_un, ev_comp, evI_name, evI_list, evI_slice, evI_range, rangeO_some, getV_val, getV_own, lookup_s, put_nil, put_s, freeze_miss, freeze0, own0, asg0, aug0, for0, eq_self, not_false_eq_true, not_true_eq_false, vI, vS, vB, vL, vO, bo_addI, bo_subI, bo_andI, cm_eq, cm_ne, cm_lt, cm_le, cm_gt, cm_ge, eq_int, eq_str, eq_bytes, tr_int, tr_bool, cd_int, cd_str, cd_bytes, cd_none, cd_bool, nocontains, String.reduceEq, if_true, if_false, Bool.false_eq_true, Option.map_some, ex_tup_call, ex_tup_disp, namesOf_nil, namesOf_name, putsO_some, puts_nil, puts_cons, tupV_some, tupD_some, evCO_some, evC_nil, evC_step, consC_some, List.map_cons, List.map_nil, methN_own, ev_meth_name, ev_meth_const, ev_meth_sub, ev_meth_call, callM_some, beq_self_eq_true, Bool.and_self, Bool.and_true, Nat.reduceLT, listO_s, tupO_s, List.length_cons, List.length_nil, Nat.reduceAdd, Nat.reduceLeDiff, methN_val, List.all_nil, List.all_cons, decide_true, decide_false, List.take_succ_cons, List.take_zero, List.nil_append, List.cons_append]
    · simp only [exs_nil, exs_cons, andThen_next, andThen_brk, andThen_ret, ifS_true, ifS_false, ex_if, ex_pass, ex_break, retS_some, ex_ret, asgS_some, ex_asg, augS_some, ex_aug, appS_some, ex_app, forS_some, ex_for, ex_while, ev_const, ev_name, bin2_some, ev_bin, negO_some, ev_neg, ifE_true, ifE_false, ev_if, ev_list, ev_tuple, cons2_some, evs_nil, evs_cons, cmp2_some, evT_cmp, ev_cmp, truthO_some, evT_name, evT_bin, evT_and, evT_or, evT_not, andS_true, andS_false, orS_true, orS_false, evA_nil, evR_nil, evA_cons, evR_cons, ev_call, evT_call, slice4_some, ev_slice, evO_none, evO_some, idxO_some, ev_idx_name, ev_idx_const, ev_idx_bin, ev_idx_un, ev_comp, evI_name, evI_list, evI_slice, evI_range, rangeO_some, getV_val, getV_own, lookup_s, put_nil, put_s, freeze_miss, freeze0, own0, asg0, aug0, for0, eq_self, not_false_eq_true, not_true_eq_false, vI, vS, vB, vL, vO, bo_addI, bo_subI, bo_andI, cm_eq, cm_ne, cm_lt, cm_le, cm_gt, cm_ge, eq_int, eq_str, eq_bytes, tr_int, tr_bool, cd_int, cd_str, cd_bytes, cd_none, cd_bool, nocontains, String.reduceEq, if_true, if_false, Bool.false_eq_true, Option.map_some, ex_tup_call, ex_tup_disp, namesOf_nil, namesOf_name, putsO_some, puts_nil, puts_cons, tupV_some, tupD_some, evCO_some, evC_nil, evC_step, consC_some, List.map_cons, List.map_nil, methN_own, ev_meth_name, ev_meth_const, ev_meth_sub, ev_meth_call, callM_some, beq_self_eq_true, Bool.and_self, Bool.and_true, Nat.reduceLT, listO_s, tupO_s, List.length_cons, List.length_nil, Nat.reduceAdd, Nat.reduceLeDiff, methN_val, List.all_nil, List.all_cons, decide_true, decide_false, List.take_succ_cons, List.take_zero, List.nil_append, List.cons_append, lookup_k, ix0, callF_bi _ b_sum, hs0, iterV_some hc0]
      rw [compS_some hc0 (imm_ints _)]
      · simp only [inner_eq, evA_nil, fm_cons, List.filterMap_nil, lookup_k, nk_ff, nk_lf, nk_gf, nk_cc, String.reduceEq, if_true, if_false, Bool.and_true, Bool.false_and, Bool.and_false, Bool.false_eq_true, innerV_val, vL, vI, vS, vB]
        rw [compL_ints (f := (·.fmod 1000000))]
        · simp only [exs_nil, exs_cons, andThen_next, andThen_brk, andThen_ret, ifS_true, ifS_false, ex_if, ex_pass, ex_break, retS_some, ex_ret, asgS_some, ex_asg, augS_some, ex_aug, appS_some, ex_app, forS_some, ex_for, ex_while, ev_const, ev_name, bin2_some, ev_bin, negO_some, ev_neg, ifE_true, ifE_false, ev_if, ev_list, ev_tuple, cons2_some, evs_nil, evs_cons, cmp2_some, evT_cmp, ev_cmp, truthO_some, evT_name, evT_bin, evT_and, evT_or, evT_not, andS_true, andS_false, orS_true, orS_false, evA_nil, evR_nil, evA_cons, evR_cons, ev_call, evT_call, slice4_some, ev_slice, evO_none, evO_some, idxO_some, ev_idx_name, ev_idx_const, ev_idx_bin, ev_idx_un, ev_comp, evI_name, evI_list, evI_slice, evI_range, rangeO_some, getV_val, getV_own, lookup_s, put_nil, put_s, freeze_miss, freeze0, own0, asg0, aug0, for0, eq_self, not_false_eq_true, not_true_eq_false, vI, vS, vB, vL, vO, bo_addI, bo_subI, bo_andI, cm_eq, cm_ne, cm_lt, cm_le, cm_gt, cm_ge, eq_int, eq_str, eq_bytes, tr_int, tr_bool, cd_int, cd_str, cd_bytes, cd_none, cd_bool, nocontains, String.reduceEq, if_true, if_false, Bool.false_eq_true, Option.map_some, ex_tup_call, ex_tup_disp, namesOf_nil, namesOf_name, putsO_some, puts_nil, puts_cons, tupV_some, tupD_some, evCO_some, evC_nil, evC_step, consC_some, List.map_cons, List.map_nil, methN_own, ev_meth_name, ev_meth_const, ev_meth_sub, ev_meth_call, callM_some, beq_self_eq_true, Bool.and_self, Bool.and_true, Nat.reduceLT, listO_s, tupO_s, List.length_cons, List.length_nil, Nat.reduceAdd, Nat.reduceLeDiff, methN_val, List.all_nil, List.all_cons, decide_true, decide_false, List.take_succ_cons, List.take_zero, List.nil_append, List.cons_append, callF_bi _ b_sum, hq0, cellC]
        · intro i
          simp only [exs_nil, exs_cons, andThen_next, andThen_brk, andThen_ret, ifS_true, ifS_false, ex_if, ex_pass, ex_break, retS_some, ex_ret, asgS_some, ex_asg, augS_some, ex_aug, appS_some, ex_app, forS_some, ex_for, ex_while, ev_const, ev_name, bin2_some, ev_bin, negO_some, ev_neg, ifE_true, ifE_false, ev_if, ev_list, ev_tuple, cons2_some, evs_nil, evs_cons, cmp2_some, evT_cmp, ev_cmp, truthO_some, evT_name, evT_bin, evT_and, evT_or, evT_not, andS_true, andS_false, orS_true, orS_false, evA_nil, evR_nil, evA_cons, evR_cons, ev_call, evT_call, slice4_some, ev_slice, evO_none, evO_some, idxO_some, ev_idx_name, ev_idx_const, ev_idx_bin, ev_idx_un, ev_comp, evI_name, evI_list, evI_slice, evI_range, rangeO_some, getV_val, getV_own, lookup_s, put_nil, put_s, freeze_miss, freeze0, own0, asg0, aug0, for0, eq_self, not_false_eq_true, not_true_eq_false, vI, vS, vB, vL, vO, bo_addI, bo_subI, bo_andI, cm_eq, cm_ne, cm_lt, cm_le, cm_gt, cm_ge, eq_int, eq_str, eq_bytes, tr_int, tr_bool, cd_int, cd_str, cd_bytes, cd_none, cd_bool, nocontains, String.reduceEq, if_true, if_false, Bool.false_eq_true, Option.map_some, ex_tup_call, ex_tup_disp, namesOf_nil, namesOf_name, putsO_some, puts_nil, puts_cons, tupV_some, tupD_some, evCO_some, evC_nil, evC_step, consC_some, List.map_cons, List.map_nil, methN_own, ev_meth_name, ev_meth_const, ev_meth_sub, ev_meth_call, callM_some, beq_self_eq_true, Bool.and_self, Bool.and_true, Nat.reduceLT, listO_s, tupO_s, List.length_cons, List.length_nil, Nat.reduceAdd, Nat.reduceLeDiff, methN_val, List.all_nil, List.all_cons, decide_true, decide_false, List.take_succ_cons, List.take_zero, List.nil_append, List.cons_append, bo_modI (show (1000000 : Int) ≠ 0 by decide)]
      · decide +kernel
    · simp only [exs_nil, exs_cons, andThen_next, andThen_brk, andThen_ret, ifS_true, ifS_false, ex_if, ex_pass, ex_break, retS_some, ex_ret, asgS_some, ex_asg, augS_some, ex_aug, appS_some, ex_app, forS_some, ex_for, ex_while, ev_const, ev_name, bin2_some, ev_bin, negO_some, ev_neg, ifE_true, ifE_false, ev_if, ev_list, ev_tuple, cons2_some, evs_nil, evs_cons, cmp2_some, evT_cmp, ev_cmp, truthO_some, evT_name, evT_bin, evT_and, evT_or, evT_not, andS_true, andS_false, orS_true, orS_false, evA_nil, evR_nil, evA_cons, evR_cons, ev_call, evT_call, slice4_some, ev_slice, evO_none, evO_some, idxO_some, ev_idx_name, ev_idx_const, ev_idx_bin, ev_idx_un, ev_comp, evI_name, evI_list, evI_slice, evI_range, rangeO_some, getV_val, getV_own, lookup_s, put_nil, put_s, freeze_miss, freeze0, own0, asg0, aug0, for0, eq_self, not_false_eq_true, not_true_eq_false, vI, vS, vB, vL, vO, bo_addI, bo_subI, bo_andI, cm_eq, cm_ne, cm_lt, cm_le, cm_gt, cm_ge, eq_int, eq_str, eq_bytes, tr_int, tr_bool, cd_int, cd_str, cd_bytes, cd_none, cd_bool, nocontains, String.reduceEq, if_true, if_false, Bool.false_eq_true, Option.map_some, ex_tup_call, ex_tup_disp, namesOf_nil, namesOf_name, putsO_some, puts_nil, puts_cons, tupV_some, tupD_some, evCO_some, evC_nil, evC_step, consC_some, List.map_cons, List.map_nil, methN_own, ev_meth_name, ev_meth_const, ev_meth_sub, ev_meth_call, callM_some, beq_self_eq_true, Bool.and_self, Bool.and_true, Nat.reduceLT, listO_s, tupO_s, List.length_cons, List.length_nil, Nat.reduceAdd, Nat.reduceLeDiff, methN_val, List.all_nil, List.all_cons, decide_true, decide_false, List.take_succ_cons, List.take_zero, List.nil_append, List.cons_append, lookup_k, ix1, callF_bi _ b_sum, hs1, iterV_some hc1]
      rw [compS_some hc1 (imm_ints _)]
      · simp only [inner_eq, evA_nil, fm_cons, List.filterMap_nil, lookup_k, nk_ff, nk_lf, nk_gf, nk_cc, String.reduceEq, if_true, if_false, Bool.and_true, Bool.false_and, Bool.and_false, Bool.false_eq_true, innerV_val, vL, vI, vS, vB]
        rw [compL_ints (f := (·.fmod 1000000))]
        · simp only [exs_nil, exs_cons, andThen_next, andThen_brk, andThen_ret, ifS_true, ifS_false, ex_if, ex_pass, ex_break, retS_some, ex_ret, asgS_some, ex_asg, augS_some, ex_aug, appS_some, ex_app, forS_some, ex_for, ex_while, ev_const, ev_name, bin2_some, ev_bin, negO_some, ev_neg, ifE_true, ifE_false, ev_if, ev_list, ev_tuple, cons2_some, evs_nil, evs_cons, cmp2_some, evT_cmp, ev_cmp, truthO_some, evT_name, evT_bin, evT_and, evT_or, evT_not, andS_true, andS_false, orS_true, orS_false, evA_nil, evR_nil, evA_cons, evR_cons, ev_call, evT_call, slice4_some, ev_slice, evO_none, evO_some, idxO_some, ev_idx_name, ev_idx_const, ev_idx_bin, ev_idx_un, ev_comp, evI_name, evI_list, evI_slice, evI_range, rangeO_some, getV_val, getV_own, lookup_s, put_nil, put_s, freeze_miss, freeze0, own0, asg0, aug0, for0, eq_self, not_false_eq_true, not_true_eq_false, vI, vS, vB, vL, vO, bo_addI, bo_subI, bo_andI, cm_eq, cm_ne, cm_lt, cm_le, cm_gt, cm_ge, eq_int, eq_str, eq_bytes, tr_int, tr_bool, cd_int, cd_str, cd_bytes, cd_none, cd_bool, nocontains, String.reduceEq, if_true, if_false, Bool.false_eq_true, Option.map_some, ex_tup_call, ex_tup_disp, namesOf_nil, namesOf_name, putsO_some, puts_nil, puts_cons, tupV_some, tupD_some, evCO_some, evC_nil, evC_step, consC_some, List.map_cons, List.map_nil, methN_own, ev_meth_name, ev_meth_const, ev_meth_sub, ev_meth_call, callM_some, beq_self_eq_true, Bool.and_self, Bool.and_true, Nat.reduceLT, listO_s, tupO_s, List.length_cons, List.length_nil, Nat.reduceAdd, Nat.reduceLeDiff, methN_val, List.all_nil, List.all_cons, decide_true, decide_false, List.take_succ_cons, List.take_zero, List.nil_append, List.cons_append, callF_bi _ b_sum, hq1, cellC]
        · intro i
          simp only [exs_nil, exs_cons, andThen_next, andThen_brk, andThen_ret, ifS_true, ifS_false, ex_if, ex_pass, ex_break, retS_some, ex_ret, asgS_some, ex_asg, augS_some, ex_aug, appS_some, ex_app, forS_some, ex_for, ex_while, ev_const, ev_name, bin2_some, ev_bin, negO_some, ev_neg, ifE_true, ifE_false, ev_if, ev_list, ev_tuple, cons2_some, evs_nil, evs_cons, cmp2_some, evT_cmp, ev_cmp, truthO_some, evT_name, evT_bin, evT_and, evT_or, evT_not, andS_true, andS_false, orS_true, orS_false, evA_nil, evR_nil, evA_cons, evR_cons, ev_call, evT_call, slice4_some, ev_slice, evO_none, evO_some, idxO_some, ev_idx_name, ev_idx_const, ev_idx_bin, ev_idx_un, ev_comp, evI_name, evI_list, evI_slice, evI_range, rangeO_some, getV_val, getV_own, lookup_s, put_nil, put_s, freeze_miss, freeze0, own0, asg0, aug0, for0, eq_self, not_false_eq_true, not_true_eq_false, vI, vS, vB, vL, vO, bo_addI, bo_subI, bo_andI, cm_eq, cm_ne, cm_lt, cm_le, cm_gt, cm_ge, eq_int, eq_str, eq_bytes, tr_int, tr_bool, cd_int, cd_str, cd_bytes, cd_none, cd_bool, nocontains, String.reduceEq, if_true, if_false, Bool.false_eq_true, Option.map_some, ex_tup_call, ex_tup_disp, namesOf_nil, namesOf_name, putsO_some, puts_nil, puts_cons, tupV_some, tupD_some, evCO_some, evC_nil, evC_step, consC_some, List.map_cons, List.map_nil, methN_own, ev_meth_name, ev_meth_const, ev_meth_sub, ev_meth_call, callM_some, beq_self_eq_true, Bool.and_self, Bool.and_true, Nat.reduceLT, listO_s, tupO_s, List.length_cons, List.length_nil, Nat.reduceAdd, Nat.reduceLeDiff, methN_val, List.all_nil, List.all_cons, decide_true, decide_false, List.take_succ_cons, List.take_zero, List.nil_append, List.cons_append, bo_modI (show (1000000 : Int) ≠ 0 by decide)]
      · decide +kernel
    · simp only [exs_nil, exs_cons, andThen_next, andThen_brk, andThen_ret, ifS_true, ifS_false, ex_if, ex_pass, ex_break, retS_some, ex_ret, asgS_some, ex_asg, augS_some, ex_aug, appS_some, ex_app, forS_some, ex_for, ex_while, ev_const, ev_name, bin2_some, ev_bin, negO_some, ev_neg, ifE_true, ifE_false, ev_if, ev_list, ev_tuple, cons2_some, evs_nil, evs_cons, cmp2_some, evT_cmp, ev_cmp, truthO_some, evT_name, evT_bin, evT_and, evT_or, evT_not, andS_true, andS_false, orS_true, orS_false, evA_nil, evR_nil, evA_cons, evR_cons, ev_call, evT_call, slice4_some, ev_slice, evO_none, evO_some, idxO_some, ev_idx_name, ev_idx_const, ev_idx_bin, ev_idx_un, ev_comp, evI_name, evI_list, evI_slice, evI_range, rangeO_some, getV_val, getV_own, lookup_s, put_nil, put_s, freeze_miss, freeze0, own0, asg0, aug0, for0, eq_self, not_false_eq_true, not_true_eq_false, vI, vS, vB, vL, vO, bo_addI, bo_subI, bo_andI, cm_eq, cm_ne, cm_lt, cm_le, cm_gt, cm_ge, eq_int, eq_str, eq_bytes, tr_int, tr_bool, cd_int, cd_str, cd_bytes, cd_none, cd_bool, nocontains, String.reduceEq, if_true, if_false, Bool.false_eq_true, Option.map_some, ex_tup_call, ex_tup_disp, namesOf_nil, namesOf_name, putsO_some, puts_nil, puts_cons, tupV_some, tupD_some, evCO_some, evC_nil, evC_step, consC_some, List.map_cons, List.map_nil, methN_own, ev_meth_name, ev_meth_const, ev_meth_sub, ev_meth_call, callM_some, beq_self_eq_true, Bool.and_self, Bool.and_true, Nat.reduceLT, listO_s, tupO_s, List.length_cons, List.length_nil, Nat.reduceAdd, Nat.reduceLeDiff, methN_val, List.all_nil, List.all_cons, decide_true, decide_false, List.take_succ_cons, List.take_zero, List.nil_append, List.cons_append, lookup_k, ix2, callF_bi _ b_sum, hs2, iterV_some hc2]
      rw [compS_some hc2 (imm_ints _)]
      · simp only [inner_eq, evA_nil, fm_cons, List.filterMap_nil, lookup_k, nk_ff, nk_lf, nk_gf, nk_cc, String.reduceEq, if_true, if_false, Bool.and_true, Bool.false_and, Bool.and_false, Bool.false_eq_true, innerV_val, vL, vI, vS, vB]
        rw [compL_ints (f := (·.fmod 1000000))]
        · simp only [exs_nil, exs_cons, andThen_next, andThen_brk, andThen_ret, ifS_true, ifS_false, ex_if, ex_pass, ex_break, retS_some, ex_ret, asgS_some, ex_asg, augS_some, ex_aug, appS_some, ex_app, forS_some, ex_for, ex_while, ev_const, ev_name, bin2_some, ev_bin, negO_some, ev_neg, ifE_true, ifE_false, ev_if, ev_list, ev_tuple, cons2_some, evs_nil, evs_cons, cmp2_some, evT_cmp, ev_cmp, truthO_some, evT_name, evT_bin, evT_and, evT_or, evT_not, andS_true, andS_false, orS_true, orS_false, evA_nil, evR_nil, evA_cons, evR_cons, ev_call, evT_call, slice4_some, ev_slice, evO_none, evO_some, idxO_some, ev_idx_name, ev_idx_const, ev_idx_bin, ev_idx_un, ev_comp, evI_name, evI_list, evI_slice, evI_range, rangeO_some, getV_val, getV_own, lookup_s, put_nil, put_s, freeze_miss, freeze0, own0, asg0, aug0, for0, eq_self, not_false_eq_true, not_true_eq_false, vI, vS, vB, vL, vO, bo_addI, bo_subI, bo_andI, cm_eq, cm_ne, cm_lt, cm_le, cm_gt, cm_ge, eq_int, eq_str, eq_bytes, tr_int, tr_bool, cd_int, cd_str, cd_bytes, cd_none, cd_bool, nocontains, String.reduceEq, if_true, if_false, Bool.false_eq_true, Option.map_some, ex_tup_call, ex_tup_disp, namesOf_nil, namesOf_name, putsO_some, puts_nil, puts_cons, tupV_some, tupD_some, evCO_some, evC_nil, evC_step, consC_some, List.map_cons, List.map_nil, methN_own, ev_meth_name, ev_meth_const, ev_meth_sub, ev_meth_call, callM_some, beq_self_eq_true, Bool.and_self, Bool.and_true, Nat.reduceLT, listO_s, tupO_s, List.length_cons, List.length_nil, Nat.reduceAdd, Nat.reduceLeDiff, methN_val, List.all_nil, List.all_cons, decide_true, decide_false, List.take_succ_cons, List.take_zero, List.nil_append, List.cons_append, callF_bi _ b_sum, hq2, cellC]
        · intro i
          simp only [exs_nil, exs_cons, andThen_next, andThen_brk, andThen_ret, ifS_true, ifS_false, ex_if, ex_pass, ex_break, retS_some, ex_ret, asgS_some, ex_asg, augS_some, ex_aug, appS_some, ex_app, forS_some, ex_for, ex_while, ev_const, ev_name, bin2_some, ev_bin, negO_some, ev_neg, ifE_true, ifE_false, ev_if, ev_list, ev_tuple, cons2_some, evs_nil, evs_cons, cmp2_some, evT_cmp, ev_cmp, truthO_some, evT_name, evT_bin, evT_and, evT_or, evT_not, andS_true, andS_false, orS_true, orS_false, evA_nil, evR_nil, evA_cons, evR_cons, ev_call, evT_call, slice4_some, ev_slice, evO_none, evO_some, idxO_some, ev_idx_name, ev_idx_const, ev_idx_bin, ev_idx_un, ev_comp, evI_name, evI_list, evI_slice, evI_range, rangeO_some, getV_val, getV_own, lookup_s, put_nil, put_s, freeze_miss, freeze0, own0, asg0, aug0, for0, eq_self, not_false_eq_true, not_true_eq_false, vI, vS, vB, vL, vO, bo_addI, bo_subI, bo_andI, cm_eq, cm_ne, cm_lt, cm_le, cm_gt, cm_ge, eq_int, eq_str, eq_bytes, tr_int, tr_bool, cd_int, cd_str, cd_bytes, cd_none, cd_bool, nocontains, String.reduceEq, if_true, if_false, Bool.false_eq_true, Option.map_some, ex_tup_call, ex_tup_disp, namesOf_nil, namesOf_name, putsO_some, puts_nil, puts_cons, tupV_some, tupD_some, evCO_some, evC_nil, evC_step, consC_some, List.map_cons, List.map_nil, methN_own, ev_meth_name, ev_meth_const, ev_meth_sub, ev_meth_call, callM_some, beq_self_eq_true, Bool.and_self, Bool.and_true, Nat.reduceLT, listO_s, tupO_s, List.length_cons, List.length_nil, Nat.reduceAdd, Nat.reduceLeDiff, methN_val, List.all_nil, List.all_cons, decide_true, decide_false, List.take_succ_cons, List.take_zero, List.nil_append, List.cons_append, bo_modI (show (1000000 : Int) ≠ 0 by decide)]
      · decide +kernel
    · simp only [exs_nil, exs_cons, andThen_next, andThen_brk, andThen_ret, ifS_true, ifS_false, ex_if, ex_pass, ex_break, retS_some, ex_ret, asgS_some, ex_asg, augS_some, ex_aug, appS_some, ex_app, forS_some, ex_for, ex_while, ev_const, ev_name, bin2_some, ev_bin, negO_some, ev_neg, ifE_true, ifE_false, ev_if, ev_list, ev_tuple, cons2_some, evs_nil, evs_cons, cmp2_some, evT_cmp, ev_cmp, truthO_some, evT_name, evT_bin, evT_and, evT_or, evT_not, andS_true, andS_false, orS_true, orS_false, evA_nil, evR_nil, evA_cons, evR_cons, ev_call, evT_call, slice4_some, ev_slice, evO_none, evO_some, idxO_some, ev_idx_name, ev_idx_const, ev_idx_bin, ev_idx_un, ev_comp, evI_name, evI_list, evI_slice, evI_range, rangeO_some, getV_val, getV_own, lookup_s, put_nil, put_s, freeze_miss, freeze0, own0, asg0, aug0, for0, eq_self, not_false_eq_true, not_true_eq_false, vI, vS, vB, vL, vO, bo_addI, bo_subI, bo_andI, cm_eq, cm_ne, cm_lt, cm_le, cm_gt, cm_ge, eq_int, eq_str, eq_bytes, tr_int, tr_bool, cd_int, cd_str, cd_bytes, cd_none, cd_bool, nocontains, String.reduceEq, if_true, if_false, Bool.false_eq_true, Option.map_some, ex_tup_call, ex_tup_disp, namesOf_nil, namesOf_name, putsO_some, puts_nil, puts_cons, tupV_some, tupD_some, evCO_some, evC_nil, evC_step, consC_some, List.map_cons, List.map_nil, methN_own, ev_meth_name, ev_meth_const, ev_meth_sub, ev_meth_call, callM_some, beq_self_eq_true, Bool.and_self, Bool.and_true, Nat.reduceLT, listO_s, tupO_s, List.length_cons, List.length_nil, Nat.reduceAdd, Nat.reduceLeDiff, methN_val, List.all_nil, List.all_cons, decide_true, decide_false, List.take_succ_cons, List.take_zero, List.nil_append, List.cons_append, lookup_k, ix3, callF_bi _ b_sum, hs3, iterV_some hc3]
      rw [compS_some hc3 (imm_ints _)]
      · simp only [inner_eq, evA_nil, fm_cons, List.filterMap_nil, lookup_k, nk_ff, nk_lf, nk_gf, nk_cc, String.reduceEq, if_true, if_false, Bool.and_true, Bool.false_and, Bool.and_false, Bool.false_eq_true, innerV_val, vL, vI, vS, vB]
        rw [compL_ints (f := (·.fmod 1000000))]
        · simp only [exs_nil, exs_cons, andThen_next, andThen_brk, andThen_ret, ifS_true, ifS_false, ex_if, ex_pass, ex_break, retS_some, ex_ret, asgS_some, ex_asg, augS_some, ex_aug, appS_some, ex_app, forS_some, ex_for, ex_while, ev_const, ev_name, bin2_some, ev_bin, negO_some, ev_neg, ifE_true, ifE_false, ev_if, ev_list, ev_tuple, cons2_some, evs_nil, evs_cons, cmp2_some, evT_cmp, ev_cmp, truthO_some, evT_name, evT_bin, evT_and, evT_or, evT_not, andS_true, andS_false, orS_true, orS_false, evA_nil, evR_nil, evA_cons, evR_cons, ev_call, evT_call, slice4_some, ev_slice, evO_none, evO_some, idxO_some, ev_idx_name, ev_idx_const, ev_idx_bin, ev_idx_un, ev_comp, evI_name, evI_list, evI_slice, evI_range, rangeO_some, getV_val, getV_own, lookup_s, put_nil, put_s, freeze_miss, freeze0, own0, asg0, aug0, for0, eq_self, not_false_eq_true, not_true_eq_false, vI, vS, vB, vL, vO, bo_addI, bo_subI, bo_andI, cm_eq, cm_ne, cm_lt, cm_le, cm_gt, cm_ge, eq_int, eq_str, eq_bytes, tr_int, tr_bool, cd_int, cd_str, cd_bytes, cd_none, cd_bool, nocontains, String.reduceEq, if_true, if_false, Bool.false_eq_true, Option.map_some, ex_tup_call, ex_tup_disp, namesOf_nil, namesOf_name, putsO_some, puts_nil, puts_cons, tupV_some, tupD_some, evCO_some, evC_nil, evC_step, consC_some, List.map_cons, List.map_nil, methN_own, ev_meth_name, ev_meth_const, ev_meth_sub, ev_meth_call, callM_some, beq_self_eq_true, Bool.and_self, Bool.and_true, Nat.reduceLT, listO_s, tupO_s, List.length_cons, List.length_nil, Nat.reduceAdd, Nat.reduceLeDiff, methN_val, List.all_nil, List.all_cons, decide_true, decide_false, List.take_succ_cons, List.take_zero, List.nil_append, List.cons_append, callF_bi _ b_sum, hq3, cellC]
        · intro i
          simp only [exs_nil, exs_cons, andThen_next, andThen_brk, andThen_ret, ifS_true, ifS_false, ex_if, ex_pass, ex_break, retS_some, ex_ret, asgS_some, ex_asg, augS_some, ex_aug, appS_some, ex_app, forS_some, ex_for, ex_while, ev_const, ev_name, bin2_some, ev_bin, negO_some, ev_neg, ifE_true, ifE_false, ev_if, ev_list, ev_tuple, cons2_some, evs_nil, evs_cons, cmp2_some, evT_cmp, ev_cmp, truthO_some, evT_name, evT_bin, evT_and, evT_or, evT_not, andS_true, andS_false, orS_true, orS_false, evA_nil, evR_nil, evA_cons, evR_cons, ev_call, evT_call, slice4_some, ev_slice, evO_none, evO_some, idxO_some, ev_idx_name, ev_idx_const, ev_idx_bin, ev_idx_un, ev_comp, evI_name, evI_list, evI_slice, evI_range, rangeO_some, getV_val, getV_own, lookup_s, put_nil, put_s, freeze_miss, freeze0, own0, asg0, aug0, for0, eq_self, not_false_eq_true, not_true_eq_false, vI, vS, vB, vL, vO, bo_addI, bo_subI, bo_andI, cm_eq, cm_ne, cm_lt, cm_le, cm_gt, cm_ge, eq_int, eq_str, eq_bytes, tr_int, tr_bool, cd_int, cd_str, cd_bytes, cd_none, cd_bool, nocontains, String.reduceEq, if_true, if_false, Bool.false_eq_true, Option.map_some, ex_tup_call, ex_tup_disp, namesOf_nil, namesOf_name, putsO_some, puts_nil, puts_cons, tupV_some, tupD_some, evCO_some, evC_nil, evC_step, consC_some, List.map_cons, List.map_nil, methN_own, ev_meth_name, ev_meth_const, ev_meth_sub, ev_meth_call, callM_some, beq_self_eq_true, Bool.and_self, Bool.and_true, Nat.reduceLT, listO_s, tupO_s, List.length_cons, List.length_nil, Nat.reduceAdd, Nat.reduceLeDiff, methN_val, List.all_nil, List.all_cons, decide_true, decide_false, List.take_succ_cons, List.take_zero, List.nil_append, List.cons_append, bo_modI (show (1000000 : Int) ≠ 0 by decide)]
      · decide +kernel
    · simp only [exs_nil, exs_cons, andThen_next, andThen_brk, andThen_ret, ifS_true, ifS_false, ex_if, ex_pass, ex_break, retS_some, ex_ret, asgS_some, ex_asg, augS_some, ex_aug, appS_some, ex_app, forS_some, ex_for, ex_while, ev_const, ev_name, bin2_some, ev_bin, negO_some, ev_neg, ifE_true, ifE_false, ev_if, ev_list, ev_tuple, cons2_some, evs_nil, evs_cons, cmp2_some, evT_cmp, ev_cmp, truthO_some, evT_name, evT_bin, evT_and, evT_or, evT_not, andS_true, andS_false, orS_true, orS_false, evA_nil, evR_nil, evA_cons, evR_cons, ev_call, evT_call, slice4_some, ev_slice, evO_none, evO_some, idxO_some, ev_idx_name, ev_idx_const, ev_idx_bin, ev_idx_un, ev_comp, evI_name, evI_list, evI_slice, evI_range, rangeO_some, getV_val, getV_own, lookup_s, put_nil, put_s, freeze_miss, freeze0, own0, asg0, aug0, for0, eq_self, not_false_eq_true, not_true_eq_false, vI, vS, vB, vL, vO, bo_addI, bo_subI, bo_andI, cm_eq, cm_ne, cm_lt, cm_le, cm_gt, cm_ge, eq_int, eq_str, eq_bytes, tr_int, tr_bool, cd_int, cd_str, cd_bytes, cd_none, cd_bool, nocontains, String.reduceEq, if_true, if_false, Bool.false_eq_true, Option.map_some, ex_tup_call, ex_tup_disp, namesOf_nil, namesOf_name, putsO_some, puts_nil, puts_cons, tupV_some, tupD_some, evCO_some, evC_nil, evC_step, consC_some, List.map_cons, List.map_nil, methN_own, ev_meth_name, ev_meth_const, ev_meth_sub, ev_meth_call, callM_some, beq_self_eq_true, Bool.and_self, Bool.and_true, Nat.reduceLT, listO_s, tupO_s, List.length_cons, List.length_nil, Nat.reduceAdd, Nat.reduceLeDiff, methN_val, List.all_nil, List.all_cons, decide_true, decide_false, List.take_succ_cons, List.take_zero, List.nil_append, List.cons_append, lookup_k, ix4, callF_bi _ b_sum, hs4, iterV_some hc4]
      rw [compS_some hc4 (imm_ints _)]
      · simp only [inner_eq, evA_nil, fm_cons, List.filterMap_nil, lookup_k, nk_ff, nk_lf, nk_gf, nk_cc, String.reduceEq, if_true, if_false, Bool.and_true, Bool.false_and, Bool.and_false, Bool.false_eq_true, innerV_val, vL, vI, vS, vB]
        rw [compL_ints (f := (·.fmod 1000000))]
        · simp only [exs_nil, exs_cons, andThen_next, andThen_brk, andThen_ret, ifS_true, ifS_false, ex_if, ex_pass, ex_break, retS_some, ex_ret, asgS_some, ex_asg, augS_some, ex_aug, appS_some, ex_app, forS_some, ex_for, ex_while, ev_const, ev_name, bin2_some, ev_bin, negO_some, ev_neg, ifE_true, ifE_false, ev_if, ev_list, ev_tuple, cons2_some, evs_nil, evs_cons, cmp2_some, evT_cmp, ev_cmp, truthO_some, evT_name, evT_bin, evT_and, evT_or, evT_not, andS_true, andS_false, orS_true, orS_false, evA_nil, evR_nil, evA_cons, evR_cons, ev_call, evT_call, slice4_some, ev_slice, evO_none, evO_some, idxO_some, ev_idx_name, ev_idx_const, ev_idx_bin, ev_idx_un, ev_comp, evI_name, evI_list, evI_slice, evI_range, rangeO_some, getV_val, getV_own, lookup_s, put_nil, put_s, freeze_miss, freeze0, own0, asg0, aug0, for0, eq_self, not_false_eq_true, not_true_eq_false, vI, vS, vB, vL, vO, bo_addI, bo_subI, bo_andI, cm_eq, cm_ne, cm_lt, cm_le, cm_gt, cm_ge, eq_int, eq_str, eq_bytes, tr_int, tr_bool, cd_int, cd_str, cd_bytes, cd_none, cd_bool, nocontains, String.reduceEq, if_true, if_false, Bool.false_eq_true, Option.map_some, ex_tup_call, ex_tup_disp, namesOf_nil, namesOf_name, putsO_some, puts_nil, puts_cons, tupV_some, tupD_some, evCO_some, evC_nil, evC_step, consC_some, List.map_cons, List.map_nil, methN_own, ev_meth_name, ev_meth_const, ev_meth_sub, ev_meth_call, callM_some, beq_self_eq_true, Bool.and_self, Bool.and_true, Nat.reduceLT, listO_s, tupO_s, List.length_cons, List.length_nil, Nat.reduceAdd, Nat.reduceLeDiff, methN_val, List.all_nil, List.all_cons, decide_true, decide_false, List.take_succ_cons, List.take_zero, List.nil_append, List.cons_append, callF_bi _ b_sum, hq4, cellC]
        · intro i
          simp only [exs_nil, exs_cons, andThen_next, andThen_brk, andThen_ret, ifS_true, ifS_false, ex_if, ex_pass, ex_break, retS_some, ex_ret, asgS_some, ex_asg, augS_some, ex_aug, appS_some, ex_app, forS_some, ex_for, ex_while, ev_const, ev_name, bin2_some, ev_bin, negO_some, ev_neg, ifE_true, ifE_false, ev_if, ev_list, ev_tuple, cons2_some, evs_nil, evs_cons, cmp2_some, evT_cmp, ev_cmp, truthO_some, evT_name, evT_bin, evT_and, evT_or, evT_not, andS_true, andS_false, orS_true, orS_false, evA_nil, evR_nil, evA_cons, evR_cons, ev_call, evT_call, slice4_some, ev_slice, evO_none, evO_some, idxO_some, ev_idx_name, ev_idx_const, ev_idx_bin, ev_idx_un, ev_comp, evI_name, evI_list, evI_slice, evI_range, rangeO_some, getV_val, getV_own, lookup_s, put_nil, put_s, freeze_miss, freeze0, own0, asg0, aug0, for0, eq_self, not_false_eq_true, not_true_eq_false, vI, vS, vB, vL, vO, bo_addI, bo_subI, bo_andI, cm_eq, cm_ne, cm_lt, cm_le, cm_gt, cm_ge, eq_int, eq_str, eq_bytes, tr_int, tr_bool, cd_int, cd_str, cd_bytes, cd_none, cd_bool, nocontains, String.reduceEq, if_true, if_false, Bool.false_eq_true, Option.map_some, ex_tup_call, ex_tup_disp, namesOf_nil, namesOf_name, putsO_some, puts_nil, puts_cons, tupV_some, tupD_some, evCO_some, evC_nil, evC_step, consC_some, List.map_cons, List.map_nil, methN_own, ev_meth_name, ev_meth_const, ev_meth_sub, ev_meth_call, callM_some, beq_self_eq_true, Bool.and_self, Bool.and_true, Nat.reduceLT, listO_s, tupO_s, List.length_cons, List.length_nil, Nat.reduceAdd, Nat.reduceLeDiff, methN_val, List.all_nil, List.all_cons, decide_true, decide_false, List.take_succ_cons, List.take_zero, List.nil_append, List.cons_append, bo_modI (show (1000000 : Int) ≠ 0 by decide)]
      · decide +kernel
    all_goals rfl
  · decide
  · rfl
  · decide +kernel
end Mine
end
section
open PySem
set_option maxRecDepth 100000
set_option Elab.async false
namespace Mine
noncomputable def noNl (r : List Nat) : Prop := ∀ x ∈ r, x ≠ 10 ∧ x ≠ 13
noncomputable def stuff (r : List Nat) : List Nat := if r.head? = some 46 then 46 :: r else r
noncomputable def en (i : Nat) : List Nat := if i = 0 then [10] else if i = 1 then [13] else [13, 10]
theorem noNl_tail {c : Nat} {r : List Nat} (h : noNl (c :: r)) : c ≠ 10 ∧ c ≠ 13 ∧ noNl r := ⟨(h c (.head _)).1, (h c (.head _)).2, fun x hx => h x (.tail _ hx)⟩
theorem nls_row : ∀ (r y : List Nat), noNl r → nlS (r ++ y) = r ++ nlS y
  | [], y, _ => rfl
  | c :: r, y, h => by
    obtain ⟨h1, h2, h3⟩ := noNl_tail h
    rw [List.cons_append, nlS.eq_5 _ _ (fun _ e _ => h2 e) (fun e => h1 e) (fun e => h2 e), nls_row r y h3]; rfl
theorem nls_end (i : Nat) (y : List Nat) (hy : y.head? ≠ some 10) : nlS (en i ++ y) = 13 :: 10 :: nlS y := by
  unfold en
  split
  · rw [List.cons_append, List.nil_append, nlS]
  · split
    · rw [List.cons_append, List.nil_append, nlS.eq_4 y (fun r' e => hy (by rw [e]; rfl))]
    · rw [List.cons_append, List.cons_append, List.nil_append, nlS]
theorem dots_mid : ∀ (r y : List Nat), noNl r → dotS false (r ++ y) = r ++ dotS false y
  | [], y, _ => rfl
  | c :: r, y, h => by
    obtain ⟨h1, h2, h3⟩ := noNl_tail h
    rw [List.cons_append, dotS, if_neg (by simp), show (c == 10) = false by simpa using h1, dots_mid r y h3]; rfl
theorem dots_row (r y : List Nat) (h : noNl r) : dotS true (r ++ 13 :: 10 :: y) = stuff r ++ 13 :: 10 :: dotS true y := by
  have e : ∀ b, dotS b (13 :: 10 :: y) = 13 :: 10 :: dotS true y := fun b => by
    rw [dotS, if_neg (by simp), dotS, if_neg (by simp)]; rfl
  cases r with
  | nil => rw [List.nil_append, e]; rfl
  | cons c r =>
    obtain ⟨h1, h2, h3⟩ := noNl_tail h
    rw [List.cons_append, dotS]
    unfold stuff
    by_cases hc : c = 46
    · subst hc
      rw [if_pos ⟨rfl, rfl⟩, dots_mid r _ h3, e]; rfl
    · rw [if_neg (fun q => hc q.2), show (c == 10) = false by simpa using h1, dots_mid r _ h3, e]
      rw [if_neg (by simpa using hc)]; rfl
theorem pt_row : ∀ (r y : List Nat), 13 ∉ r → pt [13, 10] 0 (r ++ 13 :: 10 :: y) = r :: pt [13, 10] 0 y
  | [], y, _ => by
    rw [List.nil_append, pt, if_pos (by simp)]
    show [] :: pt [13, 10] 1 (10 :: y) = _
    rw [pt]
  | c :: r, y, h => by
    have hc : c ≠ 13 := fun e => h (e ▸ .head _)
    rw [List.cons_append, pt, if_neg, pt_row r y (fun e => h (.tail _ e))]
    · rfl
    · intro e
      have : c = 13 := by
        have := congrArg List.head? e
        simpa using this
      exact hc this
theorem stuff_no13 (r : List Nat) (h : noNl r) : 13 ∉ stuff r := by
  unfold stuff
  split
  · intro e
    rcases List.mem_cons.mp e with e | e
    · cases e
    · exact (h _ e).2 rfl
  · exact fun e => (h _ e).2 rfl
/-- the mail: rows, each with its end -/
noncomputable def mailL (f : Nat → Nat) : Nat → List (List Nat) → List Nat
  | _, [] => []
  | k, r :: rs => r ++ en (f k) ++ mailL f (k + 1) rs
noncomputable def rowOk (r : List Nat) : Prop := noNl r ∧ r ≠ []
theorem mail_head (f : Nat → Nat) (k : Nat) (rs : List (List Nat)) (y : List Nat) (h : ∀ r ∈ rs, rowOk r) (hy : rs = [] → y.head? ≠ some 10) : (mailL f k rs ++ y).head? ≠ some 10 := by
  cases rs with
  | nil => exact hy rfl
  | cons r rs =>
    obtain ⟨h1, h2⟩ := h r (.head _)
    cases r with
    | nil => exact absurd rfl h2
    | cons c r =>
      have := (h1 c (.head _)).1
      show some c ≠ some 10
      simpa using this
/-- what is sent of it, when more lines follow -/
theorem sent_mail (f : Nat → Nat) : ∀ (rs : List (List Nat)) (k : Nat) (y : List Nat), (∀ r ∈ rs, rowOk r) → y.head? ≠ some 10 →
    pt [13, 10] 0 (dotS true (nlS (mailL f k rs ++ y))) = rs.map stuff ++ pt [13, 10] 0 (dotS true (nlS y))
  | [], k, y, _, _ => rfl
  | r :: rs, k, y, h, hy => by
    obtain ⟨h1, h2⟩ := h r (.head _)
    have h3 : ∀ r ∈ rs, rowOk r := fun r hr => h r (.tail _ hr)
    rw [mailL, List.append_assoc, List.append_assoc, nls_row r _ h1, nls_end _ _ (mail_head f _ rs y h3 fun _ => hy), dots_row r _ h1, pt_row _ _ (stuff_no13 r h1), sent_mail f rs (k + 1) y h3 hy]
    rfl
end Mine
end
section
open PySem
set_option maxRecDepth 100000
set_option Elab.async false
set_option linter.unusedSimpArgs false
set_option linter.unusedVariables false
set_option maxHeartbeats 4000000
namespace Mine
-- _law_sent
noncomputable def nSe : Names := fnames p1 14
noncomputable def bSe : List Stmt := fbody p1 14
theorem nSe_ends : stOk nSe (Str.ofString "ends") = true := by decide +kernel
theorem nSe_mail : stOk nSe (Str.ofString "mail") = true := by decide +kernel
theorem nSe_last : stOk nSe (Str.ofString "last") = true := by decide +kernel
theorem nSe_sent : stOk nSe (Str.ofString "sent") = true := by decide +kernel
theorem nSe_q : nSe.lookup (Str.ofString "quotedata") = some .globalImplicit := by decide +kernel
theorem nSe_rng : nSe.lookup (Str.ofString "range") = some .globalImplicit := by decide +kernel
theorem nSe_len : nSe.lookup (Str.ofString "len") = some .globalImplicit := by decide +kernel
theorem nSe_c1 : nSe.lookup (Str.ofString "rows") = some .cell := by decide +kernel
theorem nSe_c2 : nSe.lookup (Str.ofString "ends") = some .cell := by decide +kernel
theorem nSe_c3 : nSe.lookup (Str.ofString "cell") = some .cell := by decide +kernel
theorem b_q : builtinNames.contains (Str.ofString "quotedata") = false := by decide +kernel
theorem e_n : Str.ofString "\n" = sl [10] := by decide +kernel
theorem e_r : Str.ofString "\r" = sl [13] := by decide +kernel
theorem e_rn : Str.ofString "\r\n" = sl [13, 10] := by decide +kernel
theorem e_0 : Str.ofString "" = sl [] := by decide +kernel
noncomputable def fI (cell : Int) (k : Int) : Nat := ((cell + k).fmod 3).toNat
noncomputable abbrev ENDS : List D := [.str (sl [10]), .str (sl [13]), .str (sl [13, 10])]
theorem fI_lt (cell k : Int) : ((cell + k).fmod 3) = (fI cell k : Int) ∧ fI cell k < 3 := by
  unfold fI
  have e : (cell + k).fmod 3 = (cell + k) % 3 := Int.fmod_eq_emod_of_nonneg _ (by decide)
  rw [e]
  have h1 := Int.emod_nonneg (cell + k) (show (3 : Int) ≠ 0 by decide)
  have h2 := Int.emod_lt_of_pos (cell + k) (show (0 : Int) < 3 by decide)
  omega
theorem ends_at (cell k : Int) : index (.list ENDS) (.int ((cell + k).fmod 3)) = some (.str (sl (en (fI cell k)))) := by
  obtain ⟨e, h⟩ := fI_lt cell k
  rw [e]
  refine indexL ?_ (le_cap (by decide))
  have : fI cell k = 0 ∨ fI cell k = 1 ∨ fI cell k = 2 := by omega
  rcases this with h | h | h <;> rw [h] <;> rfl
noncomputable def rowsD (rl : List (List Nat)) : List D := rl.map fun r => .str (sl r)
noncomputable def lineD (rl : List (List Nat)) (cell : Int) : D → D
  | .int k => .str (sl (rl.getD k.toNat [] ++ en (fI cell k)))
  | d => d
theorem strs_lines (rl : List (List Nat)) (cell : Int) : ∀ ks : List Nat, strs? ((ks.map fun (k : Nat) => D.int (k : Int)).map (lineD rl cell)) = some ((ks.map fun k => rl.getD k [] ++ en (fI cell k)).map sl)
  | [] => rfl
  | k :: ks => by
    have ih := strs_lines rl cell ks
    simp only [List.map_cons, strs?, lineD, D.str?, ih, Int.toNat_natCast, Option.bind_some, Option.map_some]
theorem lines_flat (rl : List (List Nat)) (f : Nat → Nat) : ∀ (r : List (List Nat)) (k : Nat), rl.drop k = r → ((List.range' k r.length).map fun j => rl.getD j [] ++ en (f j)).flatten = mailL f k r
  | [], k, _ => rfl
  | x :: r, k, h => by
    have hk : rl.getD k [] = x := by
      have := congrArg (fun l => l[0]?) h
      simp only [List.getElem?_drop, Nat.add_zero, List.getElem?_cons_zero] at this
      rw [List.getD_eq_getElem?_getD, this]; rfl
    have h' : rl.drop (k + 1) = r := by rw [← List.drop_drop, h]; rfl
    rw [List.length_cons, List.range'_succ, List.map_cons, List.flatten_cons, hk, lines_flat rl f r (k + 1) h', mailL]
theorem en_len (i : Nat) : (en i).length ≤ 2 := by
  unfold en
  by_cases h : i = 0
  · rw [if_pos h]; decide
  · rw [if_neg h]
    by_cases h1 : i = 1
    · rw [if_pos h1]; decide
    · rw [if_neg h1]; decide
theorem mail_len (f : Nat → Nat) (B : Nat) : ∀ (rs : List (List Nat)) (k : Nat), (∀ r ∈ rs, r.length ≤ B) → (mailL f k rs).length ≤ rs.length * (B + 2)
  | [], k, _ => by simp [mailL]
  | r :: rs, k, h => by
    have ih := mail_len f B rs (k + 1) fun r hr => h r (.tail _ hr)
    have h1 := h r (.head _)
    have h2 := en_len (f k)
    rw [mailL, List.length_append, List.length_append, List.length_cons, Nat.succ_mul]
    omega
theorem e_dot : Str.ofString "." = sl [46] := by decide +kernel
noncomputable def lastL : List Nat := [120, 32, 11, 12, 28, 133, 8232]
theorem e_last : Str.ofString "x \x0b\x0c\x1c\x85\u2028" = sl lastL := by decide +kernel
theorem last_at (cell : Nat) : ∃ c ∈ lastL, index (.str (sl lastL)) (.int ((cell : Int).fmod 7)) = some (.str (sl [c])) := by
  have h : cell % 7 < lastL.length := Nat.mod_lt _ (by decide)
  have e : (cell : Int).fmod 7 = ((cell % 7 : Nat) : Int) := by rw [Int.fmod_eq_emod_of_nonneg _ (by decide)]; rfl
  rw [e]
  generalize cell % 7 = k at h
  exact ⟨lastL[k], List.getElem_mem h, indexS (List.getElem?_eq_getElem h) (le_cap (by decide))⟩
theorem run_S (Φ : Fns) (rl : List (List Nat)) (cell : Int) (hl : rl.length ≤ 100) (hr : ∀ r ∈ rl, r.length ≤ 100) (c : Nat) (hi : index (.str (sl lastL)) (.int (cell.fmod 7)) = some (.str (sl [c]))) (q : List Nat) (rs : List (List Nat)) (hq : q.length ≤ 900000)
    (hΦ : Φ (Str.ofString "quotedata") [.str (sl (mailL (fun k => fI cell k) 0 rl ++ [c, 46]))] = some (.str (sl q))) (hpt : pt [13, 10] 0 q = rs ++ [[c, 46]]) (hrs : rs.length ≤ 100) :
    ∃ ρ', exs Φ ({} : Pol) nSe bSe [vL "rows" (rowsD rl), vI "cell" cell] = some (.ret (.list (rowsD rs)), ρ') := by
  have hlen : builtin? (Str.ofString "len") [.list (rowsD rl)] = some (.int (rl.length : Nat)) := by
    have := lenL (l := rowsD rl) (by unfold rowsD; rw [List.length_map]; exact le_cap (by omega))
    rw [this]; unfold rowsD; rw [List.length_map]
  have hrg : range? [.int (rl.length : Nat)] = some ((List.range rl.length).map fun (k : Nat) => .int (k : Int)) := by
    have e : range? [.int (rl.length : Nat)] = if (decide ((-1000000 : Int) ≤ (rl.length : Nat)) && decide (((rl.length : Nat) : Int) ≤ 1000000)) = true then some (rangeL 0 1 ((rl.length : Nat) : Int).toNat) else none := rfl
    rw [e, if_pos (by simp; omega)]
    unfold rangeL
    simp
  have hcell : mailL (fun k => fI cell k) 0 rl = ((List.range rl.length).map fun k => rl.getD k [] ++ en (fI cell k)).flatten := by
    rw [List.range_eq_range', lines_flat rl _ rl 0 rfl]
  have hml := mail_len (fun k => fI cell k) 100 rl 0 hr
  have hjoin : method? (Str.ofString "join") (.str (sl [])) [.list (((List.range rl.length).map fun (k : Nat) => D.int (k : Int)).map (lineD rl cell))] = some (.str (sl (mailL (fun k => fI cell k) 0 rl))) := by
    refine (if_pos rfl).trans ?_
    show (strs? _).bind _ = _
    rw [strs_lines]
    refine (if_pos ?_).trans (by rw [join_sl, inter_nil, hcell])
    have hs : ((((List.range rl.length).map fun k => rl.getD k [] ++ en (fI cell k)).map sl).map (·.length)).sum = (((List.range rl.length).map fun k => rl.getD k [] ++ en (fI cell k)).flatten).length := by
      rw [List.length_flatten, List.map_map]
      congr 1
    rw [hs, ← hcell]
    simp only [sl_len, List.length_nil, Nat.mul_zero, Nat.add_zero]
    have : rl.length * (100 + 2) ≤ 100 * 102 := Nat.mul_le_mul hl (by decide)
    omega
  have hadd0 : binop .Add (.str (sl [c])) (.str (sl [46])) = some (.str (sl [c, 46])) := addS (le_cap (by simp))
  have hadd : binop .Add (.str (sl (mailL (fun k => fI cell k) 0 rl))) (.str (sl [c, 46])) = some (.str (sl (mailL (fun k => fI cell k) 0 rl ++ [c, 46]))) := by
    refine addS ?_
    have : rl.length * (100 + 2) ≤ 100 * 102 := Nat.mul_le_mul hl (by decide)
    exact Nat.le_trans (by simp; omega : _ ≤ 1000000) (by decide)
  have hsplit : method? (Str.ofString "split") (.str (sl q)) [.str (sl [13, 10])] = some (.list (rowsD (rs ++ [[c, 46]]))) := by
    have hp := parts_sl q [13, 10] (by decide)
    have hc : (Builtin.Str.partsBetween (sl q) (Builtin.Str.occurrences (sl q) (sl [13, 10]) 0 (sl q).length ((sl q).length + 1)) (sl [13, 10]).length).length ≤ cap := by
      rw [hp, List.length_map, hpt]; exact le_cap (by simp; omega)
    have e : method? (Str.ofString "split") (.str (sl q)) [.str (sl [13, 10])] = if (decide ((sl [13, 10]).length ≠ 0) && decide ((sl q).length ≤ 1000000) && decide ((Builtin.Str.partsBetween (sl q) (Builtin.Str.occurrences (sl q) (sl [13, 10]) 0 (sl q).length ((sl q).length + 1)) (sl [13, 10]).length).length ≤ cap)) = true then some (.list ((Txt.split (sl q) (sl [13, 10])).map .str)) else none := by kernel_rfl
    rw [e, if_pos, split_sl q [13, 10] (by decide) (by decide +kernel), List.map_map, hpt]
    · rfl
    · rw [decide_eq_true hc, sl_len, sl_len]
      simp; omega
  have hL : (rowsD (rs ++ [[c, 46]])).length = rs.length + 1 := by unfold rowsD; rw [List.length_map, List.length_append]; rfl
  have hix : index (.list (rowsD (rs ++ [[c, 46]]))) (.int (-1)) = some (.str (sl [c, 46])) := by
    refine (if_pos (by rw [hL]; exact le_cap (by omega))).trans ?_
    rw [show (-1 : Int) = -((1 : Nat) : Int) from rfl, idx_neg (by rw [hL]; omega) (by decide), Option.bind_some, hL, Nat.add_sub_cancel]
    unfold rowsD
    rw [List.getElem?_map, List.getElem?_append_right (Nat.le_refl _), Nat.sub_self]; rfl
  have hsl : slice (.list (rowsD (rs ++ [[c, 46]]))) .none (.int (-1)) .none = some (.list (rowsD rs)) := by
    rw [sliceL pt_none (pt_int (by decide) (by decide)) (by rw [hL]; exact le_cap (by omega)), show (-1 : Int) = -((1 : Nat) : Int) from rfl, pk_init _ _ (by decide), hL, Nat.add_sub_cancel]
    unfold rowsD
    rw [List.map_append, List.take_left' (by rw [List.length_map])]
  refine ⟨[vL "rows" (rowsD rl), vI "cell" cell, vL "ends" ENDS, vS "last" (sl [c, 46]), vS "mail" (sl (mailL (fun k => fI cell k) 0 rl)), vL "sent" (rowsD (rs ++ [[c, 46]]))], ?_⟩
  conv => lhs; arg 4; whnf
  simp only [exs_nil, exs_cons, andThen_next, andThen_brk, andThen_ret, ifS_true, ifS_false, ex_if, ex_pass, ex_break, retS_some, ex_ret, asgS_some, ex_asg, augS_some, ex_aug, appS_some, ex_app, forS_some, ex_for, ex_while, ev_const, ev_name, bin2_some, ev_bin, negO_some, ev_neg, ifE_true, ifE_false, ev_if, ev_list, ev_tuple, cons2_some, evs_nil, evs_cons, cmp2_some, evT_cmp, ev_cmp, truthO_some, evT_name, evT_bin, evT_and, evT_or, evT_not, andS_true, andS_false, orS_true, orS_false, evA_nil, evR_nil, evA_cons, evR_cons, ev_call, evT_call, slice4_some, ev_slice, evO_none, evO_some, idxO_some, ev_idx_name, ev_idx_const, ev_idx_bin, ev_idx_un, ev_comp, evI_name, evI_list, evI_slice, evI_range, rangeO_some, getV_val, getV_own, lookup_s, put_nil, put_s, freeze_miss, freeze0, own0, asg0, aug0, for0, eq_self, not_false_eq_true, not_true_eq_false, vI, vS, vB, vL, vO, bo_addI, bo_subI, bo_andI, cm_eq, cm_ne, cm_lt, cm_le, cm_gt, cm_ge, eq_int, eq_str, eq_bytes, tr_int, tr_bool, cd_int, cd_str, cd_bytes, cd_none, cd_bool, nocontains, String.reduceEq, if_true, if_false, Bool.false_eq_true, Option.map_some, ex_tup_call, ex_tup_disp, namesOf_nil, namesOf_name, putsO_some, puts_nil, puts_cons, tupV_some, tupD_some, evCO_some, evC_nil, evC_step, consC_some, List.map_cons, List.map_nil, methN_own, ev_meth_name, ev_meth_const, ev_meth_sub, ev_meth_call, callM_some, beq_self_eq_true, Bool.and_self, Bool.and_true, Nat.reduceLT, listO_s, tupO_s, List.length_cons, List.length_nil, Nat.reduceAdd, Nat.reduceLeDiff, methN_val, List.all_nil, List.all_cons, decide_true, decide_false, List.take_succ_cons, List.take_zero, List.nil_append, List.cons_append, nSe_ends, nSe_last, nSe_rng, nSe_len, callF_bi _ b_len, hlen, hrg, e_n, e_r, e_rn, e_0, e_dot, e_last, bo_modI (show (7 : Int) ≠ 0 by decide), hi, hadd0]
  rw [compS_some (by rw [List.length_map, List.length_range]; exact le_cap (by omega)) (by rw [List.all_eq_true]; intro d hd; obtain ⟨j, _, rfl⟩ := List.mem_map.mp hd; rfl)]
  · simp only [inner_eq, evA_nil, fm_cons, List.filterMap_nil, lookup_k, nk_ff, nk_lf, nk_gf, nk_cc, String.reduceEq, if_true, if_false, Bool.and_true, Bool.false_and, Bool.and_false, Bool.false_eq_true, innerV_val, vL, vI, vS, vB, nSe_c1, nSe_c2, nSe_c3]
    rw [compL_map (f := lineD rl cell)]
    · simp only [exs_nil, exs_cons, andThen_next, andThen_brk, andThen_ret, ifS_true, ifS_false, ex_if, ex_pass, ex_break, retS_some, ex_ret, asgS_some, ex_asg, augS_some, ex_aug, appS_some, ex_app, forS_some, ex_for, ex_while, ev_const, ev_name, bin2_some, ev_bin, negO_some, ev_neg, ifE_true, ifE_false, ev_if, ev_list, ev_tuple, cons2_some, evs_nil, evs_cons, cmp2_some, evT_cmp, ev_cmp, truthO_some, evT_name, evT_bin, evT_and, evT_or, evT_not, andS_true, andS_false, orS_true, orS_false, evA_nil, evR_nil, evA_cons, evR_cons, ev_call, evT_call, slice4_some, ev_slice, evO_none, evO_some, idxO_some, ev_idx_name, ev_idx_const, ev_idx_bin, ev_idx_un, ev_comp, evI_name, evI_list, evI_slice, evI_range, rangeO_some, getV_val, getV_own, lookup_s, put_nil, put_s, freeze_miss, freeze0, own0, asg0, aug0, for0, eq_self, not_false_eq_true, not_true_eq_false, vI, vS, vB, vL, vO, bo_addI, bo_subI, bo_andI, cm_eq, cm_ne, cm_lt, cm_le, cm_gt, cm_ge, eq_int, eq_str, eq_bytes, tr_int, tr_bool, cd_int, cd_str, cd_bytes, cd_none, cd_bool, nocontains, String.reduceEq, if_true, if_false, Bool.false_eq_true, Option.map_some, ex_tup_call, ex_tup_disp, namesOf_nil, namesOf_name, putsO_some, puts_nil, puts_cons, tupV_some, tupD_some, evCO_some, evC_nil, evC_step, consC_some, List.map_cons, List.map_nil, methN_own, ev_meth_name, ev_meth_const, ev_meth_sub, ev_meth_call, callM_some, beq_self_eq_true, Bool.and_self, Bool.and_true, Nat.reduceLT, listO_s, tupO_s, List.length_cons, List.length_nil, Nat.reduceAdd, Nat.reduceLeDiff, methN_val, List.all_nil, List.all_cons, decide_true, decide_false, List.take_succ_cons, List.take_zero, List.nil_append, List.cons_append, nSe_ends, nSe_mail, nSe_sent, hjoin, callM_some, ofs_eq, hadd, nSe_q, callF_user _ b_q, hΦ, hsplit, hix, hsl]
    · intro d hd
      obtain ⟨j, hj, rfl⟩ := List.mem_map.mp hd
      have hjl : j < rl.length := List.mem_range.mp hj
      have hrow : index (.list (rowsD rl)) (.int (j : Int)) = some (.str (sl (rl.getD j []))) := by
        refine indexL ?_ (by unfold rowsD; rw [List.length_map]; exact le_cap (by omega))
        unfold rowsD
        rw [List.getElem?_map, List.getD_eq_getElem?_getD, List.getElem?_eq_getElem hjl]; rfl
      have he := ends_at cell (j : Int)
      have hgl : (rl.getD j []).length ≤ 100 := by
        rw [List.getD_eq_getElem?_getD, List.getElem?_eq_getElem hjl]
        exact hr _ (List.getElem_mem hjl)
      have hen := en_len (fI cell (j : Int))
      have ha : binop .Add (.str (sl (rl.getD j []))) (.str (sl (en (fI cell (j : Int))))) = some (.str (sl (rl.getD j [] ++ en (fI cell (j : Int))))) := addS (le_cap (by omega))
      refine ⟨?_, rfl⟩
      simp only [exs_nil, exs_cons, andThen_next, andThen_brk, andThen_ret, ifS_true, ifS_false, ex_if, ex_pass, ex_break, retS_some, ex_ret, asgS_some, ex_asg, augS_some, ex_aug, appS_some, ex_app, forS_some, ex_for, ex_while, ev_const, ev_name, bin2_some, ev_bin, negO_some, ev_neg, ifE_true, ifE_false, ev_if, ev_list, ev_tuple, cons2_some, evs_nil, evs_cons, cmp2_some, evT_cmp, ev_cmp, truthO_some, evT_name, evT_bin, evT_and, evT_or, evT_not, andS_true, andS_false, orS_true, orS_false, evA_nil, evR_nil, evA_cons, evR_cons, ev_call, evT_call, slice4_some, ev_slice, evO_none, evO_some, idxO_some, ev_idx_name, ev_idx_const, ev_idx_bin, ev_idx_un, ev_comp, evI_name, evI_list, evI_slice, evI_range, rangeO_some, getV_val, getV_own, lookup_s, put_nil, put_s, freeze_miss, freeze0, own0, asg0, aug0, for0, eq_self, not_false_eq_true, not_true_eq_false, vI, vS, vB, vL, vO, bo_addI, bo_subI, bo_andI, cm_eq, cm_ne, cm_lt, cm_le, cm_gt, cm_ge, eq_int, eq_str, eq_bytes, tr_int, tr_bool, cd_int, cd_str, cd_bytes, cd_none, cd_bool, nocontains, String.reduceEq, if_true, if_false, Bool.false_eq_true, Option.map_some, ex_tup_call, ex_tup_disp, namesOf_nil, namesOf_name, putsO_some, puts_nil, puts_cons, tupV_some, tupD_some, evCO_some, evC_nil, evC_step, consC_some, List.map_cons, List.map_nil, methN_own, ev_meth_name, ev_meth_const, ev_meth_sub, ev_meth_call, callM_some, beq_self_eq_true, Bool.and_self, Bool.and_true, Nat.reduceLT, listO_s, tupO_s, List.length_cons, List.length_nil, Nat.reduceAdd, Nat.reduceLeDiff, methN_val, List.all_nil, List.all_cons, decide_true, decide_false, List.take_succ_cons, List.take_zero, List.nil_append, List.cons_append, hrow, bo_modI (show (3 : Int) ≠ 0 by decide), he, ha, lineD, Int.toNat_natCast]
  · decide +kernel
end Mine
end
section
open PySem
set_option maxRecDepth 100000
set_option Elab.async false
set_option linter.unusedSimpArgs false
set_option linter.unusedVariables false
set_option maxHeartbeats 4000000
namespace Mine
-- _law_rows
noncomputable def nW : Names := fnames p1 15
noncomputable def bW : List Stmt := fbody p1 15
theorem nW_rows : stOk nW (Str.ofString "rows") = true := by decide +kernel
theorem nW_letter : stOk nW (Str.ofString "letter") = true := by decide +kernel
theorem nW_bit : stOk nW (Str.ofString "bit") = true := by decide +kernel
theorem nW_s : nW.lookup (Str.ofString "_law_sent") = some .globalImplicit := by decide +kernel
theorem b_s : builtinNames.contains (Str.ofString "_law_sent") = false := by decide +kernel
/-- rows of dots, each one dot longer than said -/
noncomputable def dotR (m : Nat) : List Nat := List.replicate (m + 1) 46
noncomputable def rowsM (M : List Nat) : List D := rowsD (M.map dotR)
theorem rowsM_len (M : List Nat) : (rowsM M).length = M.length := by unfold rowsM rowsD; rw [List.length_map, List.length_map]
theorem rowsM_app (A B : List Nat) : rowsM (A ++ B) = rowsM A ++ rowsM B := by unfold rowsM rowsD; rw [List.map_append, List.map_append]
noncomputable def up (M : List Nat) : List Nat := M.map (· + 1)
noncomputable def sentOk (Φ : Fns) : Prop := ∀ (M : List Nat) (cell : Nat), M.length ≤ 99 → (∀ m ∈ M, m ≤ 98) → Φ (Str.ofString "_law_sent") [.list (rowsM M), .int (cell : Int)] = some (.list (rowsM (up M)))
section
variable (Φ : Fns) (R : List D) (cell l b : Int) (w : List UInt8)
theorem wW_1 (ht : decide (Builtin.bitAnd (l - 65) b ≠ 0) = true) (hR : R.length ≤ 100) :
    exs Φ ({} : Pol) nW (inner? (inner? bW 1) 0) [vB "word" w, vI "cell" cell, vL "rows" R, vI "letter" l, vI "bit" b] = some (Fl.next, [vB "word" w, vI "cell" cell, vL "rows" (R ++ [.str (sl [46])]), vI "letter" l, vI "bit" b]) := by
  have ha : binop .Add (.list R) (.list [.str (sl [46])]) = some (.list (R ++ [.str (sl [46])])) := bo_addL (by rw [List.length_singleton]; exact le_cap (by omega))
  conv => lhs; arg 4; whnf
  simp only [exs_nil, exs_cons, andThen_next, andThen_brk, andThen_ret, ifS_true, ifS_false, ex_if, ex_pass, ex_break, retS_some, ex_ret, asgS_some, ex_asg, augS_some, ex_aug, appS_some, ex_app, forS_some, ex_for, ex_while, ev_const, ev_name, bin2_some, ev_bin, negO_some, ev_neg, ifE_true, ifE_false, ev_if, ev_list, ev_tuple, cons2_some, evs_nil, evs_cons, cmp2_some, evT_cmp, ev_cmp, truthO_some, evT_name, evT_bin, evT_and, evT_or, evT_not, andS_true, andS_false, orS_true, orS_false, evA_nil, evR_nil, evA_cons, evR_cons, ev_call, evT_call, slice4_some, ev_slice, evO_none, evO_some, idxO_some, ev_idx_name, ev_idx_const, ev_idx_bin, ev_idx_un, ev_comp, evI_name, evI_list, evI_slice, evI_range, rangeO_some, getV_val, getV_own, lookup_s, put_nil, put_s, freeze_miss, freeze0, own0, asg0, aug0, for0, eq_self, not_false_eq_true, not_true_eq_false, vI, vS, vB, vL, vO, bo_addI, bo_subI, bo_andI, cm_eq, cm_ne, cm_lt, cm_le, cm_gt, cm_ge, eq_int, eq_str, eq_bytes, tr_int, tr_bool, cd_int, cd_str, cd_bytes, cd_none, cd_bool, nocontains, String.reduceEq, if_true, if_false, Bool.false_eq_true, Option.map_some, ex_tup_call, ex_tup_disp, namesOf_nil, namesOf_name, putsO_some, puts_nil, puts_cons, tupV_some, tupD_some, evCO_some, evC_nil, evC_step, consC_some, List.map_cons, List.map_nil, methN_own, ev_meth_name, ev_meth_const, ev_meth_sub, ev_meth_call, callM_some, beq_self_eq_true, Bool.and_self, Bool.and_true, Nat.reduceLT, listO_s, tupO_s, List.length_cons, List.length_nil, Nat.reduceAdd, Nat.reduceLeDiff, methN_val, List.all_nil, List.all_cons, decide_true, decide_false, List.take_succ_cons, List.take_zero, List.nil_append, List.cons_append, ht, nW_rows, e_dot, ha]
theorem wW_0 (ht : decide (Builtin.bitAnd (l - 65) b ≠ 0) = false) (R' : List D) (hΦ : Φ (Str.ofString "_law_sent") [.list R, .int (cell + b)] = some (.list R')) :
    exs Φ ({} : Pol) nW (inner? (inner? bW 1) 0) [vB "word" w, vI "cell" cell, vL "rows" R, vI "letter" l, vI "bit" b] = some (Fl.next, [vB "word" w, vI "cell" cell, vL "rows" R', vI "letter" l, vI "bit" b]) := by
  conv => lhs; arg 4; whnf
  simp only [exs_nil, exs_cons, andThen_next, andThen_brk, andThen_ret, ifS_true, ifS_false, ex_if, ex_pass, ex_break, retS_some, ex_ret, asgS_some, ex_asg, augS_some, ex_aug, appS_some, ex_app, forS_some, ex_for, ex_while, ev_const, ev_name, bin2_some, ev_bin, negO_some, ev_neg, ifE_true, ifE_false, ev_if, ev_list, ev_tuple, cons2_some, evs_nil, evs_cons, cmp2_some, evT_cmp, ev_cmp, truthO_some, evT_name, evT_bin, evT_and, evT_or, evT_not, andS_true, andS_false, orS_true, orS_false, evA_nil, evR_nil, evA_cons, evR_cons, ev_call, evT_call, slice4_some, ev_slice, evO_none, evO_some, idxO_some, ev_idx_name, ev_idx_const, ev_idx_bin, ev_idx_un, ev_comp, evI_name, evI_list, evI_slice, evI_range, rangeO_some, getV_val, getV_own, lookup_s, put_nil, put_s, freeze_miss, freeze0, own0, asg0, aug0, for0, eq_self, not_false_eq_true, not_true_eq_false, vI, vS, vB, vL, vO, bo_addI, bo_subI, bo_andI, cm_eq, cm_ne, cm_lt, cm_le, cm_gt, cm_ge, eq_int, eq_str, eq_bytes, tr_int, tr_bool, cd_int, cd_str, cd_bytes, cd_none, cd_bool, nocontains, String.reduceEq, if_true, if_false, Bool.false_eq_true, Option.map_some, ex_tup_call, ex_tup_disp, namesOf_nil, namesOf_name, putsO_some, puts_nil, puts_cons, tupV_some, tupD_some, evCO_some, evC_nil, evC_step, consC_some, List.map_cons, List.map_nil, methN_own, ev_meth_name, ev_meth_const, ev_meth_sub, ev_meth_call, callM_some, beq_self_eq_true, Bool.and_self, Bool.and_true, Nat.reduceLT, listO_s, tupO_s, List.length_cons, List.length_nil, Nat.reduceAdd, Nat.reduceLeDiff, methN_val, List.all_nil, List.all_cons, decide_true, decide_false, List.take_succ_cons, List.take_zero, List.nil_append, List.cons_append, ht, nW_rows, nW_s, callF_user _ b_s, hΦ]
theorem wW_it (x : Rho) : evI Φ (tst? (inner? bW 1) 0) nW x = some [.int 8, .int 4, .int 2, .int 1] := by
  conv => lhs; arg 2; whnf
  simp only [exs_nil, exs_cons, andThen_next, andThen_brk, andThen_ret, ifS_true, ifS_false, ex_if, ex_pass, ex_break, retS_some, ex_ret, asgS_some, ex_asg, augS_some, ex_aug, appS_some, ex_app, forS_some, ex_for, ex_while, ev_const, ev_name, bin2_some, ev_bin, negO_some, ev_neg, ifE_true, ifE_false, ev_if, ev_list, ev_tuple, cons2_some, evs_nil, evs_cons, cmp2_some, evT_cmp, ev_cmp, truthO_some, evT_name, evT_bin, evT_and, evT_or, evT_not, andS_true, andS_false, orS_true, orS_false, evA_nil, evR_nil, evA_cons, evR_cons, ev_call, evT_call, slice4_some, ev_slice, evO_none, evO_some, idxO_some, ev_idx_name, ev_idx_const, ev_idx_bin, ev_idx_un, ev_comp, evI_name, evI_list, evI_slice, evI_range, rangeO_some, getV_val, getV_own, lookup_s, put_nil, put_s, freeze_miss, freeze0, own0, asg0, aug0, for0, eq_self, not_false_eq_true, not_true_eq_false, vI, vS, vB, vL, vO, bo_addI, bo_subI, bo_andI, cm_eq, cm_ne, cm_lt, cm_le, cm_gt, cm_ge, eq_int, eq_str, eq_bytes, tr_int, tr_bool, cd_int, cd_str, cd_bytes, cd_none, cd_bool, nocontains, String.reduceEq, if_true, if_false, Bool.false_eq_true, Option.map_some, ex_tup_call, ex_tup_disp, namesOf_nil, namesOf_name, putsO_some, puts_nil, puts_cons, tupV_some, tupD_some, evCO_some, evC_nil, evC_step, consC_some, List.map_cons, List.map_nil, methN_own, ev_meth_name, ev_meth_const, ev_meth_sub, ev_meth_call, callM_some, beq_self_eq_true, Bool.and_self, Bool.and_true, Nat.reduceLT, listO_s, tupO_s, List.length_cons, List.length_nil, Nat.reduceAdd, Nat.reduceLeDiff, methN_val, List.all_nil, List.all_cons, decide_true, decide_false, List.take_succ_cons, List.take_zero, List.nil_append, List.cons_append, iterL_some (show ([D.int 8, .int 4, .int 2, .int 1] : List D).length ≤ cap from le_cap (by decide))]
end
noncomputable def bitM (b : Bool) (M : List Nat) : List Nat := if b = true then M ++ [0] else up M
theorem bitM_le (b : Bool) (M : List Nat) (n : Nat) (h1 : M.length ≤ n) (h2 : ∀ m ∈ M, m ≤ n) : (bitM b M).length ≤ n + 1 ∧ ∀ m ∈ bitM b M, m ≤ n + 1 := by
  unfold bitM
  split
  · refine ⟨by rw [List.length_append, List.length_singleton]; omega, fun m hm => ?_⟩
    rcases List.mem_append.mp hm with h | h
    · have := h2 m h; omega
    · rw [List.mem_singleton.mp h]; omega
  · refine ⟨by unfold up; rw [List.length_map]; omega, fun m hm => ?_⟩
    obtain ⟨x, hx, rfl⟩ := List.mem_map.mp hm
    have := h2 x hx; omega
theorem wW_bit {Φ : Fns} (hS : sentOk Φ) (w : List UInt8) (cell : Nat) (l : Int) (b : Nat) (M : List Nat) (n : Nat) (h1 : M.length ≤ n) (h2 : ∀ m ∈ M, m ≤ n) (hn : n ≤ 90) (c : Bool) (hc : decide (Builtin.bitAnd (l - 65) (b : Int) ≠ 0) = c) :
    exs Φ ({} : Pol) nW (inner? (inner? bW 1) 0) [vB "word" w, vI "cell" (cell : Int), vL "rows" (rowsM M), vI "letter" l, vI "bit" (b : Int)] = some (Fl.next, [vB "word" w, vI "cell" (cell : Int), vL "rows" (rowsM (bitM c M)), vI "letter" l, vI "bit" (b : Int)]) := by
  cases c with
  | true =>
    rw [wW_1 Φ _ _ _ _ _ hc (by rw [rowsM_len]; omega), show bitM true M = M ++ [0] from rfl, rowsM_app]; rfl
  | false =>
    exact wW_0 Φ _ _ _ _ _ hc _ (hS M (cell + b) (by omega) (fun m hm => by have := h2 m hm; omega))
noncomputable def letM (M : List Nat) (d : Nat) : List Nat := bitM (decide (d % 2 = 1)) (bitM (decide (d / 2 % 2 = 1)) (bitM (decide (d / 4 % 2 = 1)) (bitM (decide (d / 8 % 2 = 1)) M)))
theorem bits8 : ∀ d, d < 16 → decide (Builtin.bitAnd (((65 + d : Nat) : Int) - 65) ((8 : Nat) : Int) ≠ 0) = decide (d / 8 % 2 = 1) := by decide +kernel
theorem bits4 : ∀ d, d < 16 → decide (Builtin.bitAnd (((65 + d : Nat) : Int) - 65) ((4 : Nat) : Int) ≠ 0) = decide (d / 4 % 2 = 1) := by decide +kernel
theorem bits2 : ∀ d, d < 16 → decide (Builtin.bitAnd (((65 + d : Nat) : Int) - 65) ((2 : Nat) : Int) ≠ 0) = decide (d / 2 % 2 = 1) := by decide +kernel
theorem bits1 : ∀ d, d < 16 → decide (Builtin.bitAnd (((65 + d : Nat) : Int) - 65) ((1 : Nat) : Int) ≠ 0) = decide (d % 2 = 1) := by decide +kernel
theorem letM_le (M : List Nat) (d n : Nat) (h1 : M.length ≤ n) (h2 : ∀ m ∈ M, m ≤ n) : (letM M d).length ≤ n + 4 ∧ ∀ m ∈ letM M d, m ≤ n + 4 := by
  obtain ⟨a1, a2⟩ := bitM_le (decide (d / 8 % 2 = 1)) M n h1 h2
  obtain ⟨b1, b2⟩ := bitM_le (decide (d / 4 % 2 = 1)) _ _ a1 a2
  obtain ⟨c1, c2⟩ := bitM_le (decide (d / 2 % 2 = 1)) _ _ b1 b2
  exact bitM_le (decide (d % 2 = 1)) _ _ c1 c2
theorem wW_letter {Φ : Fns} (hS : sentOk Φ) (w : List UInt8) (cell : Nat) (d : Nat) (hd : d < 16) (M : List Nat) (n : Nat) (h1 : M.length ≤ n) (h2 : ∀ m ∈ M, m ≤ n) (hn : n ≤ 80) (t : Rho) (ht : t = [] ∨ ∃ x, t = [vI "bit" x]) :
    exs Φ ({} : Pol) nW (inner? bW 1) ([vB "word" w, vI "cell" (cell : Int), vL "rows" (rowsM M), vI "letter" ((65 + d : Nat) : Int)] ++ t) = some (Fl.next, [vB "word" w, vI "cell" (cell : Int), vL "rows" (rowsM (letM M d)), vI "letter" ((65 + d : Nat) : Int), vI "bit" 1]) := by
  have hb : inner? bW 1 = [.For (.Name (Str.ofString "bit") (tpos? (inner? bW 1) 0)) (tst? (inner? bW 1) 0) (inner? (inner? bW 1) 0) [] (pos? (inner? bW 1) 0)] := rfl
  rw [hb, exs_cons, ex_for, freeze0, wW_it, for0 nW_bit rfl]
  have hput : ∀ x : Int, put ([vB "word" w, vI "cell" (cell : Int), vL "rows" (rowsM M), vI "letter" ((65 + d : Nat) : Int)] ++ t) (Str.ofString "bit") (.val (.int x)) = [vB "word" w, vI "cell" (cell : Int), vL "rows" (rowsM M), vI "letter" ((65 + d : Nat) : Int), vI "bit" x] := by
    intro x
    rcases ht with rfl | ⟨y, rfl⟩ <;> simp only [List.cons_append, List.nil_append, put_s, put_nil, String.reduceEq, if_true, if_false]
  have hput2 : ∀ (N : List Nat) (y x : Int), put [vB "word" w, vI "cell" (cell : Int), vL "rows" (rowsM N), vI "letter" ((65 + d : Nat) : Int), vI "bit" y] (Str.ofString "bit") (.val (.int x)) = [vB "word" w, vI "cell" (cell : Int), vL "rows" (rowsM N), vI "letter" ((65 + d : Nat) : Int), vI "bit" x] := by
    intro N y x
    simp only [put_s, put_nil, String.reduceEq, if_true, if_false]
  obtain ⟨a1, a2⟩ := bitM_le (decide (d / 8 % 2 = 1)) M n h1 h2
  obtain ⟨b1, b2⟩ := bitM_le (decide (d / 4 % 2 = 1)) _ _ a1 a2
  obtain ⟨c1, c2⟩ := bitM_le (decide (d / 2 % 2 = 1)) _ _ b1 b2
  have e8 := wW_bit hS w cell _ 8 M n h1 h2 (by omega) _ (bits8 d hd)
  have e4 := wW_bit hS w cell _ 4 _ _ a1 a2 (by omega) _ (bits4 d hd)
  have e2 := wW_bit hS w cell _ 2 _ _ b1 b2 (by omega) _ (bits2 d hd)
  have e1 := wW_bit hS w cell _ 1 _ _ c1 c2 (by omega) _ (bits1 d hd)
  rw [loopF, hput, show (8 : Int) = ((8 : Nat) : Int) from rfl, e8, turn_next, loopF, hput2, show (4 : Int) = ((4 : Nat) : Int) from rfl, e4, turn_next, loopF, hput2, show (2 : Int) = ((2 : Nat) : Int) from rfl, e2, turn_next, loopF, hput2, show (1 : Int) = ((1 : Nat) : Int) from rfl, e1, turn_next, loopF, andThen_next, exs_nil]
  rfl
noncomputable def wordM (M : List Nat) (ds : List Nat) : List Nat := ds.foldl letM M
theorem wW_loop {Φ : Fns} (hS : sentOk Φ) (w : List UInt8) (cell : Nat) : ∀ (ds : List Nat) (M : List Nat) (n : Nat) (t : Rho), (∀ d ∈ ds, d < 16) → M.length ≤ n → (∀ m ∈ M, m ≤ n) → n + 4 * ds.length ≤ 80 → (t = [] ∨ ∃ l x, t = [vI "letter" l, vI "bit" x]) →
    ∃ t', loopF (Str.ofString "letter") (exs Φ ({} : Pol) nW (inner? bW 1)) (ds.map fun (d : Nat) => .int ((65 + d : Nat) : Int)) ([vB "word" w, vI "cell" (cell : Int), vL "rows" (rowsM M)] ++ t) = some (Fl.next, [vB "word" w, vI "cell" (cell : Int), vL "rows" (rowsM (wordM M ds))] ++ t')
  | [], M, n, t, _, _, _, _, _ => ⟨t, rfl⟩
  | d :: ds, M, n, t, hd, h1, h2, hn, ht => by
    rw [List.length_cons] at hn
    obtain ⟨t1, ht1, hput⟩ : ∃ t1, (t1 = [] ∨ ∃ x, t1 = [vI "bit" x]) ∧ put ([vB "word" w, vI "cell" (cell : Int), vL "rows" (rowsM M)] ++ t) (Str.ofString "letter") (.val (.int ((65 + d : Nat) : Int))) = [vB "word" w, vI "cell" (cell : Int), vL "rows" (rowsM M), vI "letter" ((65 + d : Nat) : Int)] ++ t1 := by
      rcases ht with rfl | ⟨l, x, rfl⟩
      · exact ⟨[], .inl rfl, by simp only [List.cons_append, List.nil_append, put_s, put_nil, String.reduceEq, if_true, if_false]⟩
      · exact ⟨[vI "bit" x], .inr ⟨x, rfl⟩, by simp only [List.cons_append, List.nil_append, put_s, put_nil, String.reduceEq, if_true, if_false]⟩
    rw [List.map_cons, loopF, hput, wW_letter hS w cell d (hd d (.head _)) M n h1 h2 (by omega) t1 ht1, turn_next]
    obtain ⟨a1, a2⟩ := letM_le M d n h1 h2
    exact wW_loop hS w cell ds _ (n + 4) [vI "letter" _, vI "bit" 1] (fun x hx => hd x (.tail _ hx)) a1 a2 (by omega) (.inr ⟨_, _, rfl⟩)
noncomputable def wordB (ds : List Nat) : List UInt8 := ds.map fun d => UInt8.ofNat (65 + d)
theorem word_it (ds : List Nat) (hd : ∀ d ∈ ds, d < 16) : (wordB ds).map (fun c => D.int c.toNat) = ds.map fun (d : Nat) => D.int ((65 + d : Nat) : Int) := by
  unfold wordB
  rw [List.map_map]
  refine List.map_congr_left fun d h => ?_
  have := hd d h
  show D.int (((UInt8.ofNat (65 + d)).toNat : Nat) : Int) = _
  rw [UInt8.toNat_ofNat', Nat.mod_eq_of_lt (by omega)]
theorem run_W {Φ : Fns} (hS : sentOk Φ) (cell : Nat) (ds : List Nat) (hd : ∀ d ∈ ds, d < 16) (hl : ds.length ≤ 20) : ∃ ρ', exs Φ ({} : Pol) nW bW [vB "word" (wordB ds), vI "cell" (cell : Int)] = some (.ret (.list (rowsM (wordM [] ds))), ρ') := by
  rw [exs_at Φ _ _ _ (k := 1) (st := .For (.Name (Str.ofString "letter") (tpos? bW 1)) (tst? bW 1) (inner? bW 1) [] (pos? bW 1)) rfl]
  have head : exs Φ ({} : Pol) nW (bW.take 1) [vB "word" (wordB ds), vI "cell" (cell : Int)] = some (.next, [vB "word" (wordB ds), vI "cell" (cell : Int), vL "rows" (rowsM [])] ++ []) := by
    conv => lhs; arg 4; whnf
    simp only [exs_nil, exs_cons, andThen_next, andThen_brk, andThen_ret, ifS_true, ifS_false, ex_if, ex_pass, ex_break, retS_some, ex_ret, asgS_some, ex_asg, augS_some, ex_aug, appS_some, ex_app, forS_some, ex_for, ex_while, ev_const, ev_name, bin2_some, ev_bin, negO_some, ev_neg, ifE_true, ifE_false, ev_if, ev_list, ev_tuple, cons2_some, evs_nil, evs_cons, cmp2_some, evT_cmp, ev_cmp, truthO_some, evT_name, evT_bin, evT_and, evT_or, evT_not, andS_true, andS_false, orS_true, orS_false, evA_nil, evR_nil, evA_cons, evR_cons, ev_call, evT_call, slice4_some, ev_slice, evO_none, evO_some, idxO_some, ev_idx_name, ev_idx_const, ev_idx_bin, ev_idx_un, ev_comp, evI_name, evI_list, evI_slice, evI_range, rangeO_some, getV_val, getV_own, lookup_s, put_nil, put_s, freeze_miss, freeze0, own0, asg0, aug0, for0, eq_self, not_false_eq_true, not_true_eq_false, vI, vS, vB, vL, vO, bo_addI, bo_subI, bo_andI, cm_eq, cm_ne, cm_lt, cm_le, cm_gt, cm_ge, eq_int, eq_str, eq_bytes, tr_int, tr_bool, cd_int, cd_str, cd_bytes, cd_none, cd_bool, nocontains, String.reduceEq, if_true, if_false, Bool.false_eq_true, Option.map_some, ex_tup_call, ex_tup_disp, namesOf_nil, namesOf_name, putsO_some, puts_nil, puts_cons, tupV_some, tupD_some, evCO_some, evC_nil, evC_step, consC_some, List.map_cons, List.map_nil, methN_own, ev_meth_name, ev_meth_const, ev_meth_sub, ev_meth_call, callM_some, beq_self_eq_true, Bool.and_self, Bool.and_true, Nat.reduceLT, listO_s, tupO_s, List.length_cons, List.length_nil, Nat.reduceAdd, Nat.reduceLeDiff, methN_val, List.all_nil, List.all_cons, decide_true, decide_false, List.take_succ_cons, List.take_zero, List.nil_append, List.cons_append, nW_rows]
    rfl
  rw [head, andThen_next, exs_cons, ex_for]
  have hit : evI Φ (tst? bW 1) nW ([vB "word" (wordB ds), vI "cell" (cell : Int), vL "rows" (rowsM [])] ++ []) = some (ds.map fun (d : Nat) => .int ((65 + d : Nat) : Int)) := by
    conv => lhs; arg 2; whnf
    simp only [exs_nil, exs_cons, andThen_next, andThen_brk, andThen_ret, ifS_true, ifS_false, ex_if, ex_pass, ex_break, retS_some, ex_ret, asgS_some, ex_asg, augS_some, ex_aug, appS_some, ex_app, forS_some, ex_for, ex_while, ev_const, ev_name, bin2_some, ev_bin, negO_some, ev_neg, ifE_true, ifE_false, ev_if, ev_list, ev_tuple, cons2_some, evs_nil, evs_cons, cmp2_some, evT_cmp, ev_cmp, truthO_some, evT_name, evT_bin, evT_and, evT_or, evT_not, andS_true, andS_false, orS_true, orS_false, evA_nil, evR_nil, evA_cons, evR_cons, ev_call, evT_call, slice4_some, ev_slice, evO_none, evO_some, idxO_some, ev_idx_name, ev_idx_const, ev_idx_bin, ev_idx_un, ev_comp, evI_name, evI_list, evI_slice, evI_range, rangeO_some, getV_val, getV_own, lookup_s, put_nil, put_s, freeze_miss, freeze0, own0, asg0, aug0, for0, eq_self, not_false_eq_true, not_true_eq_false, vI, vS, vB, vL, vO, bo_addI, bo_subI, bo_andI, cm_eq, cm_ne, cm_lt, cm_le, cm_gt, cm_ge, eq_int, eq_str, eq_bytes, tr_int, tr_bool, cd_int, cd_str, cd_bytes, cd_none, cd_bool, nocontains, String.reduceEq, if_true, if_false, Bool.false_eq_true, Option.map_some, ex_tup_call, ex_tup_disp, namesOf_nil, namesOf_name, putsO_some, puts_nil, puts_cons, tupV_some, tupD_some, evCO_some, evC_nil, evC_step, consC_some, List.map_cons, List.map_nil, methN_own, ev_meth_name, ev_meth_const, ev_meth_sub, ev_meth_call, callM_some, beq_self_eq_true, Bool.and_self, Bool.and_true, Nat.reduceLT, listO_s, tupO_s, List.length_cons, List.length_nil, Nat.reduceAdd, Nat.reduceLeDiff, methN_val, List.all_nil, List.all_cons, decide_true, decide_false, List.take_succ_cons, List.take_zero, List.nil_append, List.cons_append]
    rw [← word_it ds hd]
    exact if_pos (le_cap (by unfold wordB; rw [List.length_map]; omega))
  rw [freeze0, hit, for0 nW_letter (by rw [List.all_eq_true]; intro x hx; obtain ⟨j, _, rfl⟩ := List.mem_map.mp hx; rfl)]
  obtain ⟨t', hl⟩ := wW_loop hS (wordB ds) cell ds [] 0 [] hd (Nat.le_refl _) (fun _ h => nomatch h) (by omega) (.inl rfl)
  rw [hl, andThen_next]
  refine ⟨[vB "word" (wordB ds), vI "cell" (cell : Int), vL "rows" (rowsM (wordM [] ds))] ++ t', ?_⟩
  conv => lhs; arg 4; whnf
  simp only [exs_nil, exs_cons, andThen_next, andThen_brk, andThen_ret, ifS_true, ifS_false, ex_if, ex_pass, ex_break, retS_some, ex_ret, asgS_some, ex_asg, augS_some, ex_aug, appS_some, ex_app, forS_some, ex_for, ex_while, ev_const, ev_name, bin2_some, ev_bin, negO_some, ev_neg, ifE_true, ifE_false, ev_if, ev_list, ev_tuple, cons2_some, evs_nil, evs_cons, cmp2_some, evT_cmp, ev_cmp, truthO_some, evT_name, evT_bin, evT_and, evT_or, evT_not, andS_true, andS_false, orS_true, orS_false, evA_nil, evR_nil, evA_cons, evR_cons, ev_call, evT_call, slice4_some, ev_slice, evO_none, evO_some, idxO_some, ev_idx_name, ev_idx_const, ev_idx_bin, ev_idx_un, ev_comp, evI_name, evI_list, evI_slice, evI_range, rangeO_some, getV_val, getV_own, lookup_s, put_nil, put_s, freeze_miss, freeze0, own0, asg0, aug0, for0, eq_self, not_false_eq_true, not_true_eq_false, vI, vS, vB, vL, vO, bo_addI, bo_subI, bo_andI, cm_eq, cm_ne, cm_lt, cm_le, cm_gt, cm_ge, eq_int, eq_str, eq_bytes, tr_int, tr_bool, cd_int, cd_str, cd_bytes, cd_none, cd_bool, nocontains, String.reduceEq, if_true, if_false, Bool.false_eq_true, Option.map_some, ex_tup_call, ex_tup_disp, namesOf_nil, namesOf_name, putsO_some, puts_nil, puts_cons, tupV_some, tupD_some, evCO_some, evC_nil, evC_step, consC_some, List.map_cons, List.map_nil, methN_own, ev_meth_name, ev_meth_const, ev_meth_sub, ev_meth_call, callM_some, beq_self_eq_true, Bool.and_self, Bool.and_true, Nat.reduceLT, listO_s, tupO_s, List.length_cons, List.length_nil, Nat.reduceAdd, Nat.reduceLeDiff, methN_val, List.all_nil, List.all_cons, decide_true, decide_false, List.take_succ_cons, List.take_zero, List.nil_append, List.cons_append]
end Mine
end
section
open PySem
set_option maxRecDepth 100000
set_option Elab.async false
set_option linter.unusedSimpArgs false
set_option linter.unusedVariables false
set_option maxHeartbeats 4000000
namespace Mine
-- _law_climbed
noncomputable def nK : Names := fnames p1 16
noncomputable def bK : List Stmt := fbody p1 16
theorem nK_d : dispOk nK [Str.ofString "moved", Str.ofString "above"] = true := by decide +kernel
theorem nK_s : nK.lookup (Str.ofString "_law_sent") = some .globalImplicit := by decide +kernel
theorem nK_len : nK.lookup (Str.ofString "len") = some .globalImplicit := by decide +kernel
theorem e_4 : Str.ofString "...." = sl [46, 46, 46, 46] := by decide +kernel
theorem e_mv {Φ : Fns} {ρ : Rho} (x : Str) {e : Expr} : cellE Φ ({} : Pol) nK ρ x e = (ev Φ e nK ρ).map .val := cellE_val rfl
noncomputable abbrev rhoK (R : List D) (k cell : Int) (mv : Str) (a : Int) : Rho := [vL "rows" R, vI "k" k, vI "cell" cell, vS "moved" mv, vI "above" a]
section
variable (Φ : Fns) (R : List D) (k cell a n m : Int) (mv s : Str)
theorem wK_t0 (h : decide (a > 0) = false) : evT Φ (tst? bK 1) nK (rhoK R k cell mv a) = some false := by
  conv => lhs; arg 2; whnf
  simp only [exs_nil, exs_cons, andThen_next, andThen_brk, andThen_ret, ifS_true, ifS_false, ex_if, ex_pass, ex_break, retS_some, ex_ret, asgS_some, ex_asg, augS_some, ex_aug, appS_some, ex_app, forS_some, ex_for, ex_while, ev_const, ev_name, bin2_some, ev_bin, negO_some, ev_neg, ifE_true, ifE_false, ev_if, ev_list, ev_tuple, cons2_some, evs_nil, evs_cons, cmp2_some, evT_cmp, ev_cmp, truthO_some, evT_name, evT_bin, evT_and, evT_or, evT_not, andS_true, andS_false, orS_true, orS_false, evA_nil, evR_nil, evA_cons, evR_cons, ev_call, evT_call, slice4_some, ev_slice, evO_none, evO_some, idxO_some, ev_idx_name, ev_idx_const, ev_idx_bin, ev_idx_un, ev_comp, evI_name, evI_list, evI_slice, evI_range, rangeO_some, getV_val, getV_own, lookup_s, put_nil, put_s, freeze_miss, freeze0, own0, asg0, aug0, for0, eq_self, not_false_eq_true, not_true_eq_false, vI, vS, vB, vL, vO, bo_addI, bo_subI, bo_andI, cm_eq, cm_ne, cm_lt, cm_le, cm_gt, cm_ge, eq_int, eq_str, eq_bytes, tr_int, tr_bool, cd_int, cd_str, cd_bytes, cd_none, cd_bool, nocontains, String.reduceEq, if_true, if_false, Bool.false_eq_true, Option.map_some, ex_tup_call, ex_tup_disp, namesOf_nil, namesOf_name, putsO_some, puts_nil, puts_cons, tupV_some, tupD_some, evCO_some, evC_nil, evC_step, consC_some, List.map_cons, List.map_nil, methN_own, ev_meth_name, ev_meth_const, ev_meth_sub, ev_meth_call, callM_some, beq_self_eq_true, Bool.and_self, Bool.and_true, Nat.reduceLT, listO_s, tupO_s, List.length_cons, List.length_nil, Nat.reduceAdd, Nat.reduceLeDiff, methN_val, List.all_nil, List.all_cons, decide_true, decide_false, List.take_succ_cons, List.take_zero, List.nil_append, List.cons_append, h]
theorem wK_t1 (h : decide (a > 0) = true) (hi : index (.list R) (.int (a - 1)) = some (.str s)) (hl : builtin? (Str.ofString "len") [.str s] = some (.int n)) (hm : builtin? (Str.ofString "len") [.str mv] = some (.int m)) : evT Φ (tst? bK 1) nK (rhoK R k cell mv a) = some (decide (n + 1 < m)) := by
  conv => lhs; arg 2; whnf
  simp only [exs_nil, exs_cons, andThen_next, andThen_brk, andThen_ret, ifS_true, ifS_false, ex_if, ex_pass, ex_break, retS_some, ex_ret, asgS_some, ex_asg, augS_some, ex_aug, appS_some, ex_app, forS_some, ex_for, ex_while, ev_const, ev_name, bin2_some, ev_bin, negO_some, ev_neg, ifE_true, ifE_false, ev_if, ev_list, ev_tuple, cons2_some, evs_nil, evs_cons, cmp2_some, evT_cmp, ev_cmp, truthO_some, evT_name, evT_bin, evT_and, evT_or, evT_not, andS_true, andS_false, orS_true, orS_false, evA_nil, evR_nil, evA_cons, evR_cons, ev_call, evT_call, slice4_some, ev_slice, evO_none, evO_some, idxO_some, ev_idx_name, ev_idx_const, ev_idx_bin, ev_idx_un, ev_comp, evI_name, evI_list, evI_slice, evI_range, rangeO_some, getV_val, getV_own, lookup_s, put_nil, put_s, freeze_miss, freeze0, own0, asg0, aug0, for0, eq_self, not_false_eq_true, not_true_eq_false, vI, vS, vB, vL, vO, bo_addI, bo_subI, bo_andI, cm_eq, cm_ne, cm_lt, cm_le, cm_gt, cm_ge, eq_int, eq_str, eq_bytes, tr_int, tr_bool, cd_int, cd_str, cd_bytes, cd_none, cd_bool, nocontains, String.reduceEq, if_true, if_false, Bool.false_eq_true, Option.map_some, ex_tup_call, ex_tup_disp, namesOf_nil, namesOf_name, putsO_some, puts_nil, puts_cons, tupV_some, tupD_some, evCO_some, evC_nil, evC_step, consC_some, List.map_cons, List.map_nil, methN_own, ev_meth_name, ev_meth_const, ev_meth_sub, ev_meth_call, callM_some, beq_self_eq_true, Bool.and_self, Bool.and_true, Nat.reduceLT, listO_s, tupO_s, List.length_cons, List.length_nil, Nat.reduceAdd, Nat.reduceLeDiff, methN_val, List.all_nil, List.all_cons, decide_true, decide_false, List.take_succ_cons, List.take_zero, List.nil_append, List.cons_append, h, hi, hl, hm, nK_len, callF_bi _ b_len]
  cases decide (n + 1 < m) <;> rfl
theorem wK_f0 (h : decide (a > 0) = false) : evT Φ (tst? bK 2) nK (rhoK R k cell mv a) = some false := by
  conv => lhs; arg 2; whnf
  simp only [exs_nil, exs_cons, andThen_next, andThen_brk, andThen_ret, ifS_true, ifS_false, ex_if, ex_pass, ex_break, retS_some, ex_ret, asgS_some, ex_asg, augS_some, ex_aug, appS_some, ex_app, forS_some, ex_for, ex_while, ev_const, ev_name, bin2_some, ev_bin, negO_some, ev_neg, ifE_true, ifE_false, ev_if, ev_list, ev_tuple, cons2_some, evs_nil, evs_cons, cmp2_some, evT_cmp, ev_cmp, truthO_some, evT_name, evT_bin, evT_and, evT_or, evT_not, andS_true, andS_false, orS_true, orS_false, evA_nil, evR_nil, evA_cons, evR_cons, ev_call, evT_call, slice4_some, ev_slice, evO_none, evO_some, idxO_some, ev_idx_name, ev_idx_const, ev_idx_bin, ev_idx_un, ev_comp, evI_name, evI_list, evI_slice, evI_range, rangeO_some, getV_val, getV_own, lookup_s, put_nil, put_s, freeze_miss, freeze0, own0, asg0, aug0, for0, eq_self, not_false_eq_true, not_true_eq_false, vI, vS, vB, vL, vO, bo_addI, bo_subI, bo_andI, cm_eq, cm_ne, cm_lt, cm_le, cm_gt, cm_ge, eq_int, eq_str, eq_bytes, tr_int, tr_bool, cd_int, cd_str, cd_bytes, cd_none, cd_bool, nocontains, String.reduceEq, if_true, if_false, Bool.false_eq_true, Option.map_some, ex_tup_call, ex_tup_disp, namesOf_nil, namesOf_name, putsO_some, puts_nil, puts_cons, tupV_some, tupD_some, evCO_some, evC_nil, evC_step, consC_some, List.map_cons, List.map_nil, methN_own, ev_meth_name, ev_meth_const, ev_meth_sub, ev_meth_call, callM_some, beq_self_eq_true, Bool.and_self, Bool.and_true, Nat.reduceLT, listO_s, tupO_s, List.length_cons, List.length_nil, Nat.reduceAdd, Nat.reduceLeDiff, methN_val, List.all_nil, List.all_cons, decide_true, decide_false, List.take_succ_cons, List.take_zero, List.nil_append, List.cons_append, h]
theorem wK_f1 (h : decide (a > 0) = true) (hi : index (.list R) (.int (a - 1)) = some (.str s)) (hl : builtin? (Str.ofString "len") [.str s] = some (.int n)) (hm : builtin? (Str.ofString "len") [.str mv] = some (.int m)) : evT Φ (tst? bK 2) nK (rhoK R k cell mv a) = some (decide (n + 1 = m)) := by
  conv => lhs; arg 2; whnf
  simp only [exs_nil, exs_cons, andThen_next, andThen_brk, andThen_ret, ifS_true, ifS_false, ex_if, ex_pass, ex_break, retS_some, ex_ret, asgS_some, ex_asg, augS_some, ex_aug, appS_some, ex_app, forS_some, ex_for, ex_while, ev_const, ev_name, bin2_some, ev_bin, negO_some, ev_neg, ifE_true, ifE_false, ev_if, ev_list, ev_tuple, cons2_some, evs_nil, evs_cons, cmp2_some, evT_cmp, ev_cmp, truthO_some, evT_name, evT_bin, evT_and, evT_or, evT_not, andS_true, andS_false, orS_true, orS_false, evA_nil, evR_nil, evA_cons, evR_cons, ev_call, evT_call, slice4_some, ev_slice, evO_none, evO_some, idxO_some, ev_idx_name, ev_idx_const, ev_idx_bin, ev_idx_un, ev_comp, evI_name, evI_list, evI_slice, evI_range, rangeO_some, getV_val, getV_own, lookup_s, put_nil, put_s, freeze_miss, freeze0, own0, asg0, aug0, for0, eq_self, not_false_eq_true, not_true_eq_false, vI, vS, vB, vL, vO, bo_addI, bo_subI, bo_andI, cm_eq, cm_ne, cm_lt, cm_le, cm_gt, cm_ge, eq_int, eq_str, eq_bytes, tr_int, tr_bool, cd_int, cd_str, cd_bytes, cd_none, cd_bool, nocontains, String.reduceEq, if_true, if_false, Bool.false_eq_true, Option.map_some, ex_tup_call, ex_tup_disp, namesOf_nil, namesOf_name, putsO_some, puts_nil, puts_cons, tupV_some, tupD_some, evCO_some, evC_nil, evC_step, consC_some, List.map_cons, List.map_nil, methN_own, ev_meth_name, ev_meth_const, ev_meth_sub, ev_meth_call, callM_some, beq_self_eq_true, Bool.and_self, Bool.and_true, Nat.reduceLT, listO_s, tupO_s, List.length_cons, List.length_nil, Nat.reduceAdd, Nat.reduceLeDiff, methN_val, List.all_nil, List.all_cons, decide_true, decide_false, List.take_succ_cons, List.take_zero, List.nil_append, List.cons_append, h, hi, hl, hm, nK_len, callF_bi _ b_len]
  cases decide (n + 1 = m) <;> rfl
theorem wK_step (mv' : Str) (hs : slice (.str mv) (.int 1) .none .none = some (.str mv')) : exs Φ ({} : Pol) nK (inner? bK 1) (rhoK R k cell mv a) = some (Fl.next, rhoK R k cell mv' (a - 1)) := by
  conv => lhs; arg 4; whnf
  simp only [exs_nil, exs_cons, andThen_next, andThen_brk, andThen_ret, ifS_true, ifS_false, ex_if, ex_pass, ex_break, retS_some, ex_ret, asgS_some, ex_asg, augS_some, ex_aug, appS_some, ex_app, forS_some, ex_for, ex_while, ev_const, ev_name, bin2_some, ev_bin, negO_some, ev_neg, ifE_true, ifE_false, ev_if, ev_list, ev_tuple, cons2_some, evs_nil, evs_cons, cmp2_some, evT_cmp, ev_cmp, truthO_some, evT_name, evT_bin, evT_and, evT_or, evT_not, andS_true, andS_false, orS_true, orS_false, evA_nil, evR_nil, evA_cons, evR_cons, ev_call, evT_call, slice4_some, ev_slice, evO_none, evO_some, idxO_some, ev_idx_name, ev_idx_const, ev_idx_bin, ev_idx_un, ev_comp, evI_name, evI_list, evI_slice, evI_range, rangeO_some, getV_val, getV_own, lookup_s, put_nil, put_s, freeze_miss, freeze0, own0, asg0, aug0, for0, eq_self, not_false_eq_true, not_true_eq_false, vI, vS, vB, vL, vO, bo_addI, bo_subI, bo_andI, cm_eq, cm_ne, cm_lt, cm_le, cm_gt, cm_ge, eq_int, eq_str, eq_bytes, tr_int, tr_bool, cd_int, cd_str, cd_bytes, cd_none, cd_bool, nocontains, String.reduceEq, if_true, if_false, Bool.false_eq_true, Option.map_some, ex_tup_call, ex_tup_disp, namesOf_nil, namesOf_name, putsO_some, puts_nil, puts_cons, tupV_some, tupD_some, evCO_some, evC_nil, evC_step, consC_some, List.map_cons, List.map_nil, methN_own, ev_meth_name, ev_meth_const, ev_meth_sub, ev_meth_call, callM_some, beq_self_eq_true, Bool.and_self, Bool.and_true, Nat.reduceLT, listO_s, tupO_s, List.length_cons, List.length_nil, Nat.reduceAdd, Nat.reduceLeDiff, methN_val, List.all_nil, List.all_cons, decide_true, decide_false, List.take_succ_cons, List.take_zero, List.nil_append, List.cons_append, hs, e_mv, ca8_bin, ca8_sub, ca7_sub, ca8_name, ca7_name, ca6_name, ca7_const, ca8_const, ca7_slice, ca8_list, ofs_beq, String.reduceBEq, Bool.false_and, Bool.and_false, tupD_some nK_d]
theorem wK_head (x : Str) (hi : index (.list R) (.int k) = some (.str s)) (ha : binop .Add (.str s) (.str (sl [46, 46, 46, 46])) = some (.str mv)) : exs Φ ({} : Pol) nK (bK.take 1) [vL "rows" R, vI "k" k, vI "cell" cell] = some (Fl.next, rhoK R k cell mv k) := by
  conv => lhs; arg 4; whnf
  simp only [exs_nil, exs_cons, andThen_next, andThen_brk, andThen_ret, ifS_true, ifS_false, ex_if, ex_pass, ex_break, retS_some, ex_ret, asgS_some, ex_asg, augS_some, ex_aug, appS_some, ex_app, forS_some, ex_for, ex_while, ev_const, ev_name, bin2_some, ev_bin, negO_some, ev_neg, ifE_true, ifE_false, ev_if, ev_list, ev_tuple, cons2_some, evs_nil, evs_cons, cmp2_some, evT_cmp, ev_cmp, truthO_some, evT_name, evT_bin, evT_and, evT_or, evT_not, andS_true, andS_false, orS_true, orS_false, evA_nil, evR_nil, evA_cons, evR_cons, ev_call, evT_call, slice4_some, ev_slice, evO_none, evO_some, idxO_some, ev_idx_name, ev_idx_const, ev_idx_bin, ev_idx_un, ev_comp, evI_name, evI_list, evI_slice, evI_range, rangeO_some, getV_val, getV_own, lookup_s, put_nil, put_s, freeze_miss, freeze0, own0, asg0, aug0, for0, eq_self, not_false_eq_true, not_true_eq_false, vI, vS, vB, vL, vO, bo_addI, bo_subI, bo_andI, cm_eq, cm_ne, cm_lt, cm_le, cm_gt, cm_ge, eq_int, eq_str, eq_bytes, tr_int, tr_bool, cd_int, cd_str, cd_bytes, cd_none, cd_bool, nocontains, String.reduceEq, if_true, if_false, Bool.false_eq_true, Option.map_some, ex_tup_call, ex_tup_disp, namesOf_nil, namesOf_name, putsO_some, puts_nil, puts_cons, tupV_some, tupD_some, evCO_some, evC_nil, evC_step, consC_some, List.map_cons, List.map_nil, methN_own, ev_meth_name, ev_meth_const, ev_meth_sub, ev_meth_call, callM_some, beq_self_eq_true, Bool.and_self, Bool.and_true, Nat.reduceLT, listO_s, tupO_s, List.length_cons, List.length_nil, Nat.reduceAdd, Nat.reduceLeDiff, methN_val, List.all_nil, List.all_cons, decide_true, decide_false, List.take_succ_cons, List.take_zero, List.nil_append, List.cons_append, hi, e_4, ha, e_mv, ca8_bin, ca8_sub, ca7_sub, ca8_name, ca7_name, ca6_name, ca7_const, ca7_slice, ofs_beq, String.reduceBEq, Bool.false_and, Bool.and_false, tupD_some nK_d]
theorem wK_same : exs Φ ({} : Pol) nK (inner? bK 2) (rhoK R k cell mv a) = some (Fl.ret (.list R), rhoK R k cell mv a) := by
  conv => lhs; arg 4; whnf
  simp only [exs_nil, exs_cons, andThen_next, andThen_brk, andThen_ret, ifS_true, ifS_false, ex_if, ex_pass, ex_break, retS_some, ex_ret, asgS_some, ex_asg, augS_some, ex_aug, appS_some, ex_app, forS_some, ex_for, ex_while, ev_const, ev_name, bin2_some, ev_bin, negO_some, ev_neg, ifE_true, ifE_false, ev_if, ev_list, ev_tuple, cons2_some, evs_nil, evs_cons, cmp2_some, evT_cmp, ev_cmp, truthO_some, evT_name, evT_bin, evT_and, evT_or, evT_not, andS_true, andS_false, orS_true, orS_false, evA_nil, evR_nil, evA_cons, evR_cons, ev_call, evT_call, slice4_some, ev_slice, evO_none, evO_some, idxO_some, ev_idx_name, ev_idx_const, ev_idx_bin, ev_idx_un, ev_comp, evI_name, evI_list, evI_slice, evI_range, rangeO_some, getV_val, getV_own, lookup_s, put_nil, put_s, freeze_miss, freeze0, own0, asg0, aug0, for0, eq_self, not_false_eq_true, not_true_eq_false, vI, vS, vB, vL, vO, bo_addI, bo_subI, bo_andI, cm_eq, cm_ne, cm_lt, cm_le, cm_gt, cm_ge, eq_int, eq_str, eq_bytes, tr_int, tr_bool, cd_int, cd_str, cd_bytes, cd_none, cd_bool, nocontains, String.reduceEq, if_true, if_false, Bool.false_eq_true, Option.map_some, ex_tup_call, ex_tup_disp, namesOf_nil, namesOf_name, putsO_some, puts_nil, puts_cons, tupV_some, tupD_some, evCO_some, evC_nil, evC_step, consC_some, List.map_cons, List.map_nil, methN_own, ev_meth_name, ev_meth_const, ev_meth_sub, ev_meth_call, callM_some, beq_self_eq_true, Bool.and_self, Bool.and_true, Nat.reduceLT, listO_s, tupO_s, List.length_cons, List.length_nil, Nat.reduceAdd, Nat.reduceLeDiff, methN_val, List.all_nil, List.all_cons, decide_true, decide_false, List.take_succ_cons, List.take_zero, List.nil_append, List.cons_append]
theorem wK_ret {r1 r2 r3 r4 r5 r6 r7 : List D} (h1 : slice (.list R) .none (.int a) .none = some (.list r1)) (h2 : binop .Add (.list r1) (.list [.str mv]) = some (.list r2)) (h3 : slice (.list R) (.int a) (.int k) .none = some (.list r3))
    (h4 : Φ (Str.ofString "_law_sent") [.list r3, .int cell] = some (.list r4)) (h5 : binop .Add (.list r2) (.list r4) = some (.list r5)) (h6 : slice (.list R) (.int (k + 1)) .none .none = some (.list r6)) (h7 : binop .Add (.list r5) (.list r6) = some (.list r7)) :
    exs Φ ({} : Pol) nK (bK.drop 3) (rhoK R k cell mv a) = some (Fl.ret (.list r7), rhoK R k cell mv a) := by
  conv => lhs; arg 4; whnf
  simp only [exs_nil, exs_cons, andThen_next, andThen_brk, andThen_ret, ifS_true, ifS_false, ex_if, ex_pass, ex_break, retS_some, ex_ret, asgS_some, ex_asg, augS_some, ex_aug, appS_some, ex_app, forS_some, ex_for, ex_while, ev_const, ev_name, bin2_some, ev_bin, negO_some, ev_neg, ifE_true, ifE_false, ev_if, ev_list, ev_tuple, cons2_some, evs_nil, evs_cons, cmp2_some, evT_cmp, ev_cmp, truthO_some, evT_name, evT_bin, evT_and, evT_or, evT_not, andS_true, andS_false, orS_true, orS_false, evA_nil, evR_nil, evA_cons, evR_cons, ev_call, evT_call, slice4_some, ev_slice, evO_none, evO_some, idxO_some, ev_idx_name, ev_idx_const, ev_idx_bin, ev_idx_un, ev_comp, evI_name, evI_list, evI_slice, evI_range, rangeO_some, getV_val, getV_own, lookup_s, put_nil, put_s, freeze_miss, freeze0, own0, asg0, aug0, for0, eq_self, not_false_eq_true, not_true_eq_false, vI, vS, vB, vL, vO, bo_addI, bo_subI, bo_andI, cm_eq, cm_ne, cm_lt, cm_le, cm_gt, cm_ge, eq_int, eq_str, eq_bytes, tr_int, tr_bool, cd_int, cd_str, cd_bytes, cd_none, cd_bool, nocontains, String.reduceEq, if_true, if_false, Bool.false_eq_true, Option.map_some, ex_tup_call, ex_tup_disp, namesOf_nil, namesOf_name, putsO_some, puts_nil, puts_cons, tupV_some, tupD_some, evCO_some, evC_nil, evC_step, consC_some, List.map_cons, List.map_nil, methN_own, ev_meth_name, ev_meth_const, ev_meth_sub, ev_meth_call, callM_some, beq_self_eq_true, Bool.and_self, Bool.and_true, Nat.reduceLT, listO_s, tupO_s, List.length_cons, List.length_nil, Nat.reduceAdd, Nat.reduceLeDiff, methN_val, List.all_nil, List.all_cons, decide_true, decide_false, List.take_succ_cons, List.take_zero, List.nil_append, List.cons_append, h1, h2, h3, h4, h5, h6, h7, nK_s, callF_user _ b_s]
end
noncomputable def climbF : List Nat → Nat → List Nat × Nat
  | [], mv => ([], mv)
  | a :: ra, mv => if a + 1 < mv then climbF ra (mv - 1) else (a :: ra, mv)
noncomputable def stuckF : List Nat × Nat → Bool
  | ([], _) => false
  | (a :: _, mv) => decide (a + 1 = mv)
noncomputable def clM (A : List Nat) (m : Nat) (R : List Nat) : List Nat :=
  if stuckF (climbF A.reverse (m + 4)) = true then A ++ m :: R else (climbF A.reverse (m + 4)).1.reverse ++ (climbF A.reverse (m + 4)).2 :: (up (A.drop (climbF A.reverse (m + 4)).1.length) ++ R)
theorem dot_len (m : Nat) (h : m ≤ 300) : builtin? (Str.ofString "len") [.str (sl (dotR m))] = some (.int ((m + 1 : Nat) : Int)) := by
  rw [lenS (by unfold dotR; rw [List.length_replicate]; exact le_cap (by omega))]
  unfold dotR; rw [List.length_replicate]
theorem dot_tl (m : Nat) (h : m ≤ 300) (h0 : 1 ≤ m) : slice (.str (sl (dotR m))) (.int 1) .none .none = some (.str (sl (dotR (m - 1)))) := by
  rw [sliceS (pt_int (by decide) (by decide)) pt_none (by unfold dotR; rw [List.length_replicate]; exact le_cap (by omega)), show (1 : Int) = ((1 : Nat) : Int) from rfl, pk_drop]
  unfold dotR
  rw [List.drop_replicate, show m + 1 - 1 = m - 1 + 1 by omega]
theorem rowsM_at {M : List Nat} {k m : Nat} (h : M[k]? = some m) (hM : M.length ≤ 300) : index (.list (rowsM M)) (.int (k : Int)) = some (.str (sl (dotR m))) := by
  refine indexL ?_ (by rw [rowsM_len]; exact le_cap (by omega))
  unfold rowsM rowsD
  rw [List.getElem?_map, List.getElem?_map, h]; rfl
theorem rev_at (a : Nat) (ra rest : List Nat) : ((a :: ra).reverse ++ rest)[ra.length]? = some a := by
  rw [List.reverse_cons, List.append_assoc, List.getElem?_append_right (by rw [List.length_reverse]; exact Nat.le_refl _), List.length_reverse, Nat.sub_self]; rfl
theorem climb_len : ∀ (ra : List Nat) (mv : Nat), ∃ p, ra = p ++ (climbF ra mv).1 ∧ (climbF ra mv).2 + p.length = mv
  | [], mv => ⟨[], rfl, rfl⟩
  | a :: ra, mv => by
    rw [climbF]
    by_cases h : a + 1 < mv
    · rw [if_pos h]
      obtain ⟨p, h1, h2⟩ := climb_len ra (mv - 1)
      exact ⟨a :: p, by rw [List.cons_append, ← h1], by rw [List.length_cons]; omega⟩
    · rw [if_neg h]; exact ⟨[], rfl, rfl⟩
theorem wK_loop (Φ : Fns) (k cell : Int) : ∀ (ra rest : List Nat) (mv : Nat) (fuel : Nat), (ra.reverse ++ rest).length ≤ 300 → (∀ x ∈ ra, x ≤ 300) → mv ≤ 300 → ra.length < fuel →
    loopW (evT Φ (tst? bK 1) nK) (exs Φ ({} : Pol) nK (inner? bK 1)) fuel (rhoK (rowsM (ra.reverse ++ rest)) k cell (sl (dotR mv)) (ra.length : Nat)) = some (.next, rhoK (rowsM (ra.reverse ++ rest)) k cell (sl (dotR (climbF ra mv).2)) ((climbF ra mv).1.length : Nat))
  | ra, rest, mv, 0, _, _, _, h => by omega
  | [], rest, mv, fuel + 1, _, _, _, _ => by
    rw [loopW, wK_t0 _ _ _ _ _ _ (by decide)]; rfl
  | a :: ra, rest, mv, fuel + 1, hl, hx, hmv, hf => by
    have hi : index (.list (rowsM ((a :: ra).reverse ++ rest))) (.int (((a :: ra).length : Nat) - 1)) = some (.str (sl (dotR a))) := by
      have := rowsM_at (rev_at a ra rest) hl
      rw [show (((a :: ra).length : Nat) : Int) - 1 = ((ra.length : Nat) : Int) by rw [List.length_cons]; omega]; exact this
    have ha := hx a (.head _)
    rw [loopW, wK_t1 Φ _ _ _ _ _ _ _ _ (decide_eq_true (by rw [List.length_cons]; omega)) hi (dot_len a ha) (dot_len mv hmv), climbF]
    by_cases h : a + 1 < mv
    · rw [if_pos h, decide_eq_true (by omega), wK_step _ _ _ _ _ _ _ (dot_tl mv hmv (by omega)), lw_next]
      have e : (a :: ra).reverse ++ rest = ra.reverse ++ (a :: rest) := by rw [List.reverse_cons, List.append_assoc]; rfl
      rw [e] at hl ⊢
      rw [show (((a :: ra).length : Nat) : Int) - 1 = ((ra.length : Nat) : Int) by rw [List.length_cons]; omega]
      exact wK_loop Φ k cell ra (a :: rest) (mv - 1) fuel hl (fun x h => hx x (.tail _ h)) (by omega) (by rw [List.length_cons] at hf; omega)
    · rw [if_neg h, decide_eq_false (by omega)]; rfl
theorem rowsM_take (M : List Nat) (a : Nat) (h : M.length ≤ 300) (ha : a ≤ 300) : slice (.list (rowsM M)) .none (.int (a : Int)) .none = some (.list (rowsM (M.take a))) := by
  rw [sliceL pt_none (pt_int (by omega) (by omega)) (by rw [rowsM_len]; exact le_cap (by omega)), pk_take]
  unfold rowsM rowsD
  rw [List.map_take, List.map_take]
theorem rowsM_drop (M : List Nat) (a : Nat) (h : M.length ≤ 300) (ha : a ≤ 300) : slice (.list (rowsM M)) (.int (a : Int)) .none .none = some (.list (rowsM (M.drop a))) := by
  rw [sliceL (pt_int (by omega) (by omega)) pt_none (by rw [rowsM_len]; exact le_cap (by omega)), pk_drop]
  unfold rowsM rowsD
  rw [List.map_drop, List.map_drop]
theorem rowsM_mid (M : List Nat) (a b : Nat) (h : M.length ≤ 300) (ha : a ≤ 300) (hb : b ≤ M.length) : slice (.list (rowsM M)) (.int (a : Int)) (.int (b : Int)) .none = some (.list (rowsM ((M.drop a).take (b - a)))) := by
  rw [sliceL (pt_int (by omega) (by omega)) (pt_int (by omega) (by omega)) (by rw [rowsM_len]; exact le_cap (by omega)), pk_mid _ _ _ (by rw [rowsM_len]; exact hb)]
  unfold rowsM rowsD
  rw [List.map_take, List.map_take, List.map_drop, List.map_drop]
theorem rowsM_add (X Y : List Nat) (h : X.length + Y.length ≤ 900) : binop .Add (.list (rowsM X)) (.list (rowsM Y)) = some (.list (rowsM (X ++ Y))) := by
  rw [rowsM_app]
  exact bo_addL (by rw [rowsM_len, rowsM_len]; exact le_cap (by omega))
theorem run_K {Φ : Fns} (hS : sentOk Φ) (A : List Nat) (m : Nat) (R : List Nat) (cell : Nat) (hl : (A ++ m :: R).length ≤ 90) (hx : ∀ x ∈ A ++ m :: R, x ≤ 90) : ∃ ρ', exs Φ ({} : Pol) nK bK [vL "rows" (rowsM (A ++ m :: R)), vI "k" (A.length : Nat), vI "cell" (cell : Int)] = some (.ret (.list (rowsM (clM A m R))), ρ') := by
  have hAl : A.length + R.length + 1 ≤ 90 := by rw [List.length_append, List.length_cons] at hl; omega
  have hAx : ∀ x ∈ A, x ≤ 90 := fun x h => hx x (List.mem_append_left _ h)
  have hm : m ≤ 90 := hx m (List.mem_append_right _ (.head _))
  have hat : (A ++ m :: R)[A.length]? = some m := by rw [List.getElem?_append_right (Nat.le_refl _), Nat.sub_self]; rfl
  have ha4 : binop .Add (.str (sl (dotR m))) (.str (sl [46, 46, 46, 46])) = some (.str (sl (dotR (m + 4)))) := by
    rw [addS (le_cap (by unfold dotR; rw [List.length_replicate]; simp; omega))]
    unfold dotR
    rw [show [46, 46, 46, 46] = List.replicate 4 46 from rfl, List.replicate_append_replicate, show m + 1 + 4 = m + 4 + 1 by omega]
  rw [exs_at Φ _ _ _ (k := 1) (st := .While (tst? bK 1) (inner? bK 1) [] (pos? bK 1)) rfl, wK_head Φ _ _ _ _ _ (sl []) (rowsM_at hat (by omega)) ha4, andThen_next, exs_cons, ex_while, freeze0]
  have hw := wK_loop Φ (A.length : Nat) (cell : Int) A.reverse (m :: R) (m + 4) 100000 (by rw [List.reverse_reverse]; omega) (fun x h => by have := hAx x (List.mem_reverse.mp h); omega) (by omega) (by rw [List.length_reverse]; omega)
  rw [List.reverse_reverse, List.length_reverse] at hw
  rw [show ({} : Pol).fuel = 100000 from rfl, hw, andThen_next]
  obtain ⟨p, hp1, hp2⟩ := climb_len A.reverse (m + 4)
  have hA : A = (climbF A.reverse (m + 4)).1.reverse ++ p.reverse := by
    rw [← List.reverse_append, ← hp1, List.reverse_reverse]
  have hdrop : A.drop (climbF A.reverse (m + 4)).1.length = p.reverse := by
    have := congrArg (List.drop (climbF A.reverse (m + 4)).1.length) hA
    rw [List.drop_left' (by rw [List.length_reverse])] at this
    exact this
  have htake : A.take (climbF A.reverse (m + 4)).1.length = (climbF A.reverse (m + 4)).1.reverse := by
    have := congrArg (List.take (climbF A.reverse (m + 4)).1.length) hA
    rw [List.take_left' (by rw [List.length_reverse])] at this
    exact this
  have hlen : (climbF A.reverse (m + 4)).1.length + p.length = A.length := by
    have := congrArg List.length hA
    rw [List.length_append, List.length_reverse, List.length_reverse] at this
    omega
  unfold clM
  rw [hdrop]
  have hst : bK.drop 2 = .If (tst? bK 2) (inner? bK 2) [] (pos? bK 2) :: bK.drop 3 := rfl
  rw [hst, exs_cons, ex_if, freeze0]
  have hpm : ∀ x ∈ p.reverse, x ≤ 98 := fun x h => by
    have := hAx x (by rw [hA]; exact List.mem_append_right _ h); omega
  generalize hc : climbF A.reverse (m + 4) = c at *
  obtain ⟨rr, mv⟩ := c
  simp only at hp2 hA htake hlen ⊢
  have hret : exs Φ ({} : Pol) nK (bK.drop 3) (rhoK (rowsM (A ++ m :: R)) (A.length : Nat) (cell : Int) (sl (dotR mv)) (rr.length : Nat)) = some (.ret (.list (rowsM (rr.reverse ++ mv :: (up p.reverse ++ R)))), rhoK (rowsM (A ++ m :: R)) (A.length : Nat) (cell : Int) (sl (dotR mv)) (rr.length : Nat)) := by
    have e1 : (A ++ m :: R).take rr.length = rr.reverse := by rw [List.take_append_of_le_length (by omega), htake]
    have e2 : ((A ++ m :: R).drop rr.length).take (A.length - rr.length) = p.reverse := by
      rw [List.drop_append_of_le_length (by omega), hdrop]
      exact List.take_left' (by rw [List.length_reverse]; omega)
    have e3 : (A ++ m :: R).drop (A.length + 1) = R := by rw [← List.drop_drop, List.drop_left]; rfl
    have h1 := rowsM_take (A ++ m :: R) rr.length (by omega) (by omega)
    have h3 := rowsM_mid (A ++ m :: R) rr.length A.length (by omega) (by omega) (by rw [List.length_append]; omega)
    have h6 := rowsM_drop (A ++ m :: R) (A.length + 1) (by omega) (by omega)
    rw [e1] at h1; rw [e2] at h3; rw [e3] at h6
    have hu : (up p.reverse).length = p.length := by unfold up; rw [List.length_map, List.length_reverse]
    have h2 := rowsM_add rr.reverse [mv] (by rw [List.length_reverse, List.length_singleton]; omega)
    have h5 := rowsM_add (rr.reverse ++ [mv]) (up p.reverse) (by rw [List.length_append, List.length_reverse, List.length_singleton]; omega)
    have h7 := rowsM_add (rr.reverse ++ [mv] ++ up p.reverse) R (by rw [List.length_append, List.length_append, List.length_reverse, List.length_singleton]; omega)
    have hw := wK_ret Φ (rowsM (A ++ m :: R)) (A.length : Nat) (cell : Int) (rr.length : Nat) (sl (dotR mv)) h1 h2 h3 (hS _ cell (by rw [List.length_reverse]; omega) hpm) h5 h6 h7
    rw [hw]
    simp only [List.append_assoc, List.cons_append, List.nil_append]
  cases rr with
  | nil =>
    rw [wK_f0 _ _ _ _ _ _ (by decide), ifS_false, exs_nil, andThen_next, if_neg (show ¬ stuckF ([], mv) = true from Bool.false_ne_true)]
    exact ⟨_, hret⟩
  | cons a ra =>
    have hat2 : (A ++ m :: R)[ra.length]? = some a := by
      rw [hA, List.append_assoc]; exact rev_at a ra _
    have hi : index (.list (rowsM (A ++ m :: R))) (.int (((a :: ra).length : Nat) - 1)) = some (.str (sl (dotR a))) := by
      rw [show (((a :: ra).length : Nat) : Int) - 1 = ((ra.length : Nat) : Int) by rw [List.length_cons]; omega]
      exact rowsM_at hat2 (by omega)
    have ha : a ≤ 90 := hAx a (by rw [hA]; exact List.mem_append_left _ (List.mem_reverse.mpr (.head _)))
    rw [wK_f1 Φ _ _ _ _ _ _ _ _ (decide_eq_true (by rw [List.length_cons]; omega)) hi (dot_len a (by omega)) (dot_len mv (by omega))]
    by_cases h : a + 1 = mv
    · rw [decide_eq_true (by omega), ifS_true, wK_same, andThen_ret, if_pos (show stuckF (a :: ra, mv) = true from decide_eq_true h)]
      exact ⟨_, rfl⟩
    · rw [decide_eq_false (by omega), ifS_false, exs_nil, andThen_next, if_neg (show ¬ stuckF (a :: ra, mv) = true by rw [show stuckF (a :: ra, mv) = decide (a + 1 = mv) from rfl, decide_eq_false h]; exact Bool.false_ne_true)]
      exact ⟨_, hret⟩
end Mine
end
section
open PySem
set_option maxRecDepth 100000
set_option Elab.async false
set_option linter.unusedSimpArgs false
set_option linter.unusedVariables false
set_option maxHeartbeats 4000000
namespace Mine
-- _law_half
noncomputable def nH : Names := fnames p1 17
noncomputable def bH : List Stmt := fbody p1 17
theorem nH_told : stOk nH (Str.ofString "told") = true := by decide +kernel
theorem nH_p : nH.lookup (Str.ofString "parse257") = some .globalImplicit := by decide +kernel
theorem b_p : builtinNames.contains (Str.ofString "parse257") = false := by decide +kernel
theorem s257q : Str.ofString "257 \"" = sl [50, 53, 55, 32, 34] := by decide +kernel
noncomputable def parseOk (Φ : Fns) : Prop := ∀ l : List Nat, l.length ≤ 99000 → Φ (Str.ofString "parse257") [.str (sl (50 :: 53 :: 55 :: 32 :: 34 :: l))] = some (.str (sl (scan l)))
theorem scan_q {c : Nat} {r : List Nat} (h : c ≠ 34) : scan (34 :: c :: r) = [] := by
  rw [scan.eq_3 (c :: r) (fun r' e => h (by cases e; rfl))]
theorem scan_marks (c : Nat) (tl : List Nat) (hc : c ≠ 34) (htl : scan tl = []) : ∀ m : Nat, scan (List.replicate m 34 ++ [c] ++ tl) = List.replicate (m / 2) 34 ++ if m % 2 = 0 then [c] else []
  | 0 => by
    show scan (c :: tl) = _
    rw [scan_ne hc, htl]; rfl
  | 1 => by
    show scan (34 :: c :: tl) = _
    rw [scan_q hc]; rfl
  | m + 2 => by
    have ih := scan_marks c tl hc htl m
    have e : List.replicate (m + 2) 34 ++ [c] ++ tl = 34 :: 34 :: (List.replicate m 34 ++ [c] ++ tl) := by
      rw [List.replicate_succ, List.replicate_succ]; rfl
    rw [e, scan, ih, show (m + 2) / 2 = m / 2 + 1 by omega, List.replicate_succ, show (m + 2) % 2 = m % 2 by omega]; rfl
section
variable (Φ : Fns) (M tl td x0 : List Nat) (c : Nat)
noncomputable abbrev rhoH (M tl : List Nat) (c : Nat) : Rho := [vS "marks" (sl M), vS "sign" (sl [c]), vS "tail" (sl tl)]
theorem wH_told (a1 : binop .Add (.str (sl [50, 53, 55, 32, 34])) (.str (sl M)) = some (.str (sl (50 :: 53 :: 55 :: 32 :: 34 :: M))))
    (a2 : binop .Add (.str (sl (50 :: 53 :: 55 :: 32 :: 34 :: M))) (.str (sl [c])) = some (.str (sl (50 :: 53 :: 55 :: 32 :: 34 :: (M ++ [c])))))
    (a3 : binop .Add (.str (sl (50 :: 53 :: 55 :: 32 :: 34 :: (M ++ [c])))) (.str (sl tl)) = some (.str (sl (50 :: 53 :: 55 :: 32 :: 34 :: (M ++ [c] ++ tl)))))
    (hΦ : Φ (Str.ofString "parse257") [.str (sl (50 :: 53 :: 55 :: 32 :: 34 :: (M ++ [c] ++ tl)))] = some (.str (sl td))) :
    exs Φ ({} : Pol) nH (bH.take 1) (rhoH M tl c) = some (Fl.next, rhoH M tl c ++ [vS "told" (sl td)]) := by
  conv => lhs; arg 4; whnf
  simp only [exs_nil, exs_cons, andThen_next, andThen_brk, andThen_ret, ifS_true, ifS_false, ex_if, ex_pass, ex_break, retS_some, ex_ret, asgS_some, ex_asg, augS_some, ex_aug, appS_some, ex_app, forS_some, ex_for, ex_while, ev_const, ev_name, bin2_some, ev_bin, negO_some, ev_neg, ifE_true, ifE_false, ev_if, ev_list, ev_tuple, cons2_some, evs_nil, evs_cons, cmp2_some, evT_cmp, ev_cmp, truthO_some, evT_name, evT_bin, evT_and, evT_or, evT_not, andS_true, andS_false, orS_true, orS_false, evA_nil, evR_nil, evA_cons, evR_cons, ev_call, evT_call, slice4_some, ev_slice, evO_none, evO_some, idxO_some, ev_idx_name, ev_idx_const, ev_idx_bin, ev_idx_un, ev_comp, evI_name, evI_list, evI_slice, evI_range, rangeO_some, getV_val, getV_own, lookup_s, put_nil, put_s, freeze_miss, freeze0, own0, asg0, aug0, for0, eq_self, not_false_eq_true, not_true_eq_false, vI, vS, vB, vL, vO, bo_addI, bo_subI, bo_andI, cm_eq, cm_ne, cm_lt, cm_le, cm_gt, cm_ge, eq_int, eq_str, eq_bytes, tr_int, tr_bool, cd_int, cd_str, cd_bytes, cd_none, cd_bool, nocontains, String.reduceEq, if_true, if_false, Bool.false_eq_true, Option.map_some, ex_tup_call, ex_tup_disp, namesOf_nil, namesOf_name, putsO_some, puts_nil, puts_cons, tupV_some, tupD_some, evCO_some, evC_nil, evC_step, consC_some, List.map_cons, List.map_nil, methN_own, ev_meth_name, ev_meth_const, ev_meth_sub, ev_meth_call, callM_some, beq_self_eq_true, Bool.and_self, Bool.and_true, Nat.reduceLT, listO_s, tupO_s, List.length_cons, List.length_nil, Nat.reduceAdd, Nat.reduceLeDiff, methN_val, List.all_nil, List.all_cons, decide_true, decide_false, List.take_succ_cons, List.take_zero, List.nil_append, List.cons_append, rhoH, s257q, a1, a2, a3, nH_p, callF_user _ b_p, hΦ, nH_told]
theorem wH_even (hl : slice (.str (sl td)) (.int (-1)) .none .none = some (.str (sl [c]))) (hi : slice (.str (sl td)) .none (.int (-1)) .none = some (.str (sl x0))) :
    exs Φ ({} : Pol) nH (bH.drop 1) (rhoH M tl c ++ [vS "told" (sl td)]) = some (Fl.ret (.tuple [.str (sl x0), .int 0]), rhoH M tl c ++ [vS "told" (sl td)]) := by
  conv => lhs; arg 4; whnf
  simp only [exs_nil, exs_cons, andThen_next, andThen_brk, andThen_ret, ifS_true, ifS_false, ex_if, ex_pass, ex_break, retS_some, ex_ret, asgS_some, ex_asg, augS_some, ex_aug, appS_some, ex_app, forS_some, ex_for, ex_while, ev_const, ev_name, bin2_some, ev_bin, negO_some, ev_neg, ifE_true, ifE_false, ev_if, ev_list, ev_tuple, cons2_some, evs_nil, evs_cons, cmp2_some, evT_cmp, ev_cmp, truthO_some, evT_name, evT_bin, evT_and, evT_or, evT_not, andS_true, andS_false, orS_true, orS_false, evA_nil, evR_nil, evA_cons, evR_cons, ev_call, evT_call, slice4_some, ev_slice, evO_none, evO_some, idxO_some, ev_idx_name, ev_idx_const, ev_idx_bin, ev_idx_un, ev_comp, evI_name, evI_list, evI_slice, evI_range, rangeO_some, getV_val, getV_own, lookup_s, put_nil, put_s, freeze_miss, freeze0, own0, asg0, aug0, for0, eq_self, not_false_eq_true, not_true_eq_false, vI, vS, vB, vL, vO, bo_addI, bo_subI, bo_andI, cm_eq, cm_ne, cm_lt, cm_le, cm_gt, cm_ge, eq_int, eq_str, eq_bytes, tr_int, tr_bool, cd_int, cd_str, cd_bytes, cd_none, cd_bool, nocontains, String.reduceEq, if_true, if_false, Bool.false_eq_true, Option.map_some, ex_tup_call, ex_tup_disp, namesOf_nil, namesOf_name, putsO_some, puts_nil, puts_cons, tupV_some, tupD_some, evCO_some, evC_nil, evC_step, consC_some, List.map_cons, List.map_nil, methN_own, ev_meth_name, ev_meth_const, ev_meth_sub, ev_meth_call, callM_some, beq_self_eq_true, Bool.and_self, Bool.and_true, Nat.reduceLT, listO_s, tupO_s, List.length_cons, List.length_nil, Nat.reduceAdd, Nat.reduceLeDiff, methN_val, List.all_nil, List.all_cons, decide_true, decide_false, List.take_succ_cons, List.take_zero, List.nil_append, List.cons_append, rhoH, hl, hi]
theorem wH_odd {y : Str} (hl : slice (.str (sl td)) (.int (-1)) .none .none = some (.str y)) (hy : (y = sl [c]) = False) :
    exs Φ ({} : Pol) nH (bH.drop 1) (rhoH M tl c ++ [vS "told" (sl td)]) = some (Fl.ret (.tuple [.str (sl td), .int 1]), rhoH M tl c ++ [vS "told" (sl td)]) := by
  conv => lhs; arg 4; whnf
  simp only [exs_nil, exs_cons, andThen_next, andThen_brk, andThen_ret, ifS_true, ifS_false, ex_if, ex_pass, ex_break, retS_some, ex_ret, asgS_some, ex_asg, augS_some, ex_aug, appS_some, ex_app, forS_some, ex_for, ex_while, ev_const, ev_name, bin2_some, ev_bin, negO_some, ev_neg, ifE_true, ifE_false, ev_if, ev_list, ev_tuple, cons2_some, evs_nil, evs_cons, cmp2_some, evT_cmp, ev_cmp, truthO_some, evT_name, evT_bin, evT_and, evT_or, evT_not, andS_true, andS_false, orS_true, orS_false, evA_nil, evR_nil, evA_cons, evR_cons, ev_call, evT_call, slice4_some, ev_slice, evO_none, evO_some, idxO_some, ev_idx_name, ev_idx_const, ev_idx_bin, ev_idx_un, ev_comp, evI_name, evI_list, evI_slice, evI_range, rangeO_some, getV_val, getV_own, lookup_s, put_nil, put_s, freeze_miss, freeze0, own0, asg0, aug0, for0, eq_self, not_false_eq_true, not_true_eq_false, vI, vS, vB, vL, vO, bo_addI, bo_subI, bo_andI, cm_eq, cm_ne, cm_lt, cm_le, cm_gt, cm_ge, eq_int, eq_str, eq_bytes, tr_int, tr_bool, cd_int, cd_str, cd_bytes, cd_none, cd_bool, nocontains, String.reduceEq, if_true, if_false, Bool.false_eq_true, Option.map_some, ex_tup_call, ex_tup_disp, namesOf_nil, namesOf_name, putsO_some, puts_nil, puts_cons, tupV_some, tupD_some, evCO_some, evC_nil, evC_step, consC_some, List.map_cons, List.map_nil, methN_own, ev_meth_name, ev_meth_const, ev_meth_sub, ev_meth_call, callM_some, beq_self_eq_true, Bool.and_self, Bool.and_true, Nat.reduceLT, listO_s, tupO_s, List.length_cons, List.length_nil, Nat.reduceAdd, Nat.reduceLeDiff, methN_val, List.all_nil, List.all_cons, decide_true, decide_false, List.take_succ_cons, List.take_zero, List.nil_append, List.cons_append, rhoH, hl, hy]
end
theorem last_c (l : List Nat) (c : Nat) (h : l.length ≤ 500) : slice (.str (sl (l ++ [c]))) (.int (-1)) .none .none = some (.str (sl [c])) := by
  rw [sliceS (pt_int (by decide) (by decide)) pt_none (by rw [List.length_append]; exact le_cap (by simp; omega))]
  rw [show (-1 : Int) = -((1 : Nat) : Int) from rfl, pk_last _ _ (by decide)]
  simp
theorem init_c (l : List Nat) (c : Nat) (h : l.length ≤ 500) : slice (.str (sl (l ++ [c]))) .none (.int (-1)) .none = some (.str (sl l)) := by
  rw [sliceS pt_none (pt_int (by decide) (by decide)) (by rw [List.length_append]; exact le_cap (by simp; omega))]
  rw [show (-1 : Int) = -((1 : Nat) : Int) from rfl, pk_init _ _ (by decide)]
  simp
theorem last_m (m c : Nat) (h : m ≤ 1000) (hc : c ≠ 34) : ∃ y, slice (.str (sl (List.replicate m 34))) (.int (-1)) .none .none = some (.str y) ∧ (y = sl [c]) = False := by
  refine ⟨sl ((List.replicate m 34).drop ((List.replicate m 34).length - 1)), ?_, eq_false ?_⟩
  · rw [sliceS (pt_int (by decide) (by decide)) pt_none (by rw [List.length_replicate]; exact le_cap h)]
    rw [show (-1 : Int) = -((1 : Nat) : Int) from rfl, pk_last _ _ (by decide)]
  · rw [sl_inj, List.drop_replicate]
    intro e
    have hm : c ∈ List.replicate (m - ((List.replicate m 34).length - 1)) 34 := by rw [e]; exact .head _
    exact hc (List.eq_of_mem_replicate hm)
theorem run_H {Φ : Fns} (hP : parseOk Φ) (m c : Nat) (tl : List Nat) (hm : m ≤ 100) (hc : c ≠ 34) (ht : scan tl = []) (htl : tl.length ≤ 10) :
    ∃ ρ', exs Φ ({} : Pol) nH bH [vS "marks" (sl (List.replicate m 34)), vS "sign" (sl [c]), vS "tail" (sl tl)] = some (.ret (.tuple [.str (sl (List.replicate (m / 2) 34)), .int ((m % 2 : Nat) : Int)]), ρ') := by
  have hlen : (List.replicate m 34).length ≤ 100 := by rw [List.length_replicate]; exact hm
  have hd := hP (List.replicate m 34 ++ [c] ++ tl) (by rw [List.length_append, List.length_append]; simp only [List.length_singleton]; omega)
  rw [scan_marks c tl hc ht] at hd
  have a1 : binop .Add (.str (sl [50, 53, 55, 32, 34])) (.str (sl (List.replicate m 34))) = some (.str (sl (50 :: 53 :: 55 :: 32 :: 34 :: List.replicate m 34))) := by
    rw [addS (le_cap (by simp only [List.length_cons, List.length_nil]; omega))]; rfl
  have a2 : binop .Add (.str (sl (50 :: 53 :: 55 :: 32 :: 34 :: List.replicate m 34))) (.str (sl [c])) = some (.str (sl (50 :: 53 :: 55 :: 32 :: 34 :: (List.replicate m 34 ++ [c])))) := by
    rw [addS (le_cap (by simp only [List.length_cons, List.length_nil]; omega))]; rfl
  have a3 : binop .Add (.str (sl (50 :: 53 :: 55 :: 32 :: 34 :: (List.replicate m 34 ++ [c])))) (.str (sl tl)) = some (.str (sl (50 :: 53 :: 55 :: 32 :: 34 :: (List.replicate m 34 ++ [c] ++ tl)))) := by
    rw [addS (le_cap (by simp only [List.length_append, List.length_cons, List.length_nil]; omega))]; rfl
  have hsplit : bH = bH.take 1 ++ bH.drop 1 := (List.take_append_drop 1 bH).symm
  rw [hsplit, exs_app]
  have e0 := wH_told Φ _ tl _ c a1 a2 a3 hd
  rw [show [vS "marks" (sl (List.replicate m 34)), vS "sign" (sl [c]), vS "tail" (sl tl)] = rhoH (List.replicate m 34) tl c from rfl, e0, andThen_next]
  by_cases h : m % 2 = 0
  · rw [if_pos h, wH_even Φ _ _ _ _ c (last_c _ c (by rw [List.length_replicate]; omega)) (init_c _ c (by rw [List.length_replicate]; omega)), h]
    exact ⟨_, rfl⟩
  · rw [if_neg h, List.append_nil]
    obtain ⟨y, h1, h2⟩ := last_m (m / 2) c (by omega) hc
    rw [wH_odd Φ _ _ _ c h1 h2, show m % 2 = 1 by omega]
    exact ⟨_, rfl⟩
end Mine
end
section
open PySem
set_option maxRecDepth 100000
set_option Elab.async false
set_option linter.unusedSimpArgs false
set_option linter.unusedVariables false
set_option maxHeartbeats 4000000
namespace Mine
-- _law_hooks
noncomputable def nG : Names := fnames p1 18
noncomputable def bG : List Stmt := fbody p1 18
theorem nG_found : stOk nG (Str.ofString "found") = true := by decide +kernel
theorem nG_k : stOk nG (Str.ofString "k") = true := by decide +kernel
theorem nG_dot : stOk nG (Str.ofString "dot") = true := by decide +kernel
theorem nG_legs : stOk nG (Str.ofString "legs") = true := by decide +kernel
theorem nG_dot' : nG.lookup (Str.ofString "dot") = some .cell := by decide +kernel
theorem nG_len : nG.lookup (Str.ofString "len") = some .globalImplicit := by decide +kernel
theorem nG_rng : nG.lookup (Str.ofString "range") = some .globalImplicit := by decide +kernel
/-- rows that reach as far -/
noncomputable def lg (S : List Nat) (d : Nat) : Nat := (S.filter fun x => decide (d ≤ x)).length
noncomputable def longer (d : Int) : D → Bool
  | .str s => decide ((s.length : Int) > d)
  | _ => false
theorem longer_len (d : Nat) : ∀ S : List Nat, ((rowsM S).filter (longer (d : Int))).length = lg S d
  | [] => rfl
  | x :: S => by
    have ih := longer_len d S
    have e : longer (d : Int) (.str (sl (dotR x))) = decide (d ≤ x) := by
      show decide (((sl (dotR x)).length : Int) > d) = _
      rw [sl_len]
      unfold dotR
      rw [List.length_replicate]
      exact decide_eq_decide.mpr (by omega)
    have e2 : rowsM (x :: S) = .str (sl (dotR x)) :: rowsM S := rfl
    unfold lg at ih ⊢
    rw [e2, List.filter_cons, List.filter_cons, e]
    split
    · rw [List.length_cons, List.length_cons, ih]
    · exact ih
theorem imm_rows (S : List Nat) : (rowsM S).all D.imm = true := by
  rw [List.all_eq_true]
  intro d hd
  unfold rowsM rowsD at hd
  obtain ⟨x, _, rfl⟩ := List.mem_map.mp hd
  rfl
section
variable (Φ : Fns) (R : List D) (f k : Int) (d m : Nat) (S : List Nat) (t : Rho)
theorem wG_body (ht : t = [] ∨ ∃ l, t = [vI "legs" l]) (hS : S.length ≤ 100) (hx : ∀ x ∈ S, x ≤ 300) (hm : m ≤ 300) (hs : slice (.list R) (.int (k + 1)) .none .none = some (.list (rowsM S))) (hi : index (.list R) (.int k) = some (.str (sl (dotR m))))
    (b : Bool) (hb : decide ((((m + 1 : Nat) : Int) - (d : Int) + (lg S d : Nat)).fmod 4 = 0) = b) :
    exs Φ ({} : Pol) nG (inner? (inner? bG 1) 0) ([vL "rows" R, vI "found" f, vI "k" k, vI "dot" (d : Int)] ++ t) = some (Fl.next, [vL "rows" R, vI "found" (if b = true then f + 1 else f), vI "k" k, vI "dot" (d : Int), vI "legs" (lg S d : Nat)]) := by
  have hput : ∀ x : D, put t (Str.ofString "legs") (.val x) = [(Str.ofString "legs", .val x)] := by
    intro x
    rcases ht with rfl | ⟨l, rfl⟩ <;> simp only [put_s, put_nil, if_true]
  have hlg : lg S d ≤ S.length := List.length_filter_le ..
  have hcl : (rowsM S).length ≤ cap := by rw [rowsM_len]; exact le_cap (by omega)
  have hlen : builtin? (Str.ofString "len") [.list (((rowsM S).filter (longer (d : Int))).map fun _ => D.int 1)] = some (.int (lg S d : Nat)) := by
    rw [lenL (by rw [List.length_map, longer_len]; exact le_cap (by omega)), List.length_map, longer_len]
  conv => lhs; arg 4; whnf
  simp only [exs_nil, exs_cons, andThen_next, andThen_brk, andThen_ret, ifS_true, ifS_false, ex_if, ex_pass, ex_break, retS_some, ex_ret, asgS_some, ex_asg, augS_some, ex_aug, appS_some, ex_app, forS_some, ex_for, ex_while, ev_const, ev_name, bin2_some, ev_bin, negO_some, ev_neg, ifE_true, ifE_false, ev_if, ev_list, ev_tuple, cons2_some, evs_nil, evs_cons, cmp2_some, evT_cmp, ev_cmp, truthO_some, evT_name, evT_bin, evT_and, evT_or, evT_not, andS_true, andS_false, orS_true, orS_false, evA_nil, evR_nil, evA_cons, evR_cons, ev_call, evT_call, slice4_some, ev_slice, evO_none, evO_some, idxO_some, ev_idx_name, ev_idx_const, ev_idx_bin, ev_idx_un, ev_comp, evI_name, evI_list, evI_slice, evI_range, rangeO_some, getV_val, getV_own, lookup_s, put_nil, put_s, freeze_miss, freeze0, own0, asg0, aug0, for0, eq_self, not_false_eq_true, not_true_eq_false, vI, vS, vB, vL, vO, bo_addI, bo_subI, bo_andI, cm_eq, cm_ne, cm_lt, cm_le, cm_gt, cm_ge, eq_int, eq_str, eq_bytes, tr_int, tr_bool, cd_int, cd_str, cd_bytes, cd_none, cd_bool, nocontains, String.reduceEq, if_true, if_false, Bool.false_eq_true, Option.map_some, ex_tup_call, ex_tup_disp, namesOf_nil, namesOf_name, putsO_some, puts_nil, puts_cons, tupV_some, tupD_some, evCO_some, evC_nil, evC_step, consC_some, List.map_cons, List.map_nil, methN_own, ev_meth_name, ev_meth_const, ev_meth_sub, ev_meth_call, callM_some, beq_self_eq_true, Bool.and_self, Bool.and_true, Nat.reduceLT, listO_s, tupO_s, List.length_cons, List.length_nil, Nat.reduceAdd, Nat.reduceLeDiff, methN_val, List.all_nil, List.all_cons, decide_true, decide_false, List.take_succ_cons, List.take_zero, List.nil_append, List.cons_append, hs, iterV_some hcl]
  rw [compS_some hcl (imm_rows S)]
  · simp only [inner_eq, evA_nil, fm_cons, List.filterMap_nil, lookup_k, nk_ff, nk_lf, nk_gf, nk_cc, String.reduceEq, if_true, if_false, Bool.and_true, Bool.false_and, Bool.and_false, Bool.false_eq_true, innerV_val, vL, vI, vS, vB, nG_dot']
    rw [compL_filter (p := longer (d : Int)) (f := fun _ => D.int 1)]
    · simp only [exs_nil, exs_cons, andThen_next, andThen_brk, andThen_ret, ifS_true, ifS_false, ex_if, ex_pass, ex_break, retS_some, ex_ret, asgS_some, ex_asg, augS_some, ex_aug, appS_some, ex_app, forS_some, ex_for, ex_while, ev_const, ev_name, bin2_some, ev_bin, negO_some, ev_neg, ifE_true, ifE_false, ev_if, ev_list, ev_tuple, cons2_some, evs_nil, evs_cons, cmp2_some, evT_cmp, ev_cmp, truthO_some, evT_name, evT_bin, evT_and, evT_or, evT_not, andS_true, andS_false, orS_true, orS_false, evA_nil, evR_nil, evA_cons, evR_cons, ev_call, evT_call, slice4_some, ev_slice, evO_none, evO_some, idxO_some, ev_idx_name, ev_idx_const, ev_idx_bin, ev_idx_un, ev_comp, evI_name, evI_list, evI_slice, evI_range, rangeO_some, getV_val, getV_own, lookup_s, put_nil, put_s, freeze_miss, freeze0, own0, asg0, aug0, for0, eq_self, not_false_eq_true, not_true_eq_false, vI, vS, vB, vL, vO, bo_addI, bo_subI, bo_andI, cm_eq, cm_ne, cm_lt, cm_le, cm_gt, cm_ge, eq_int, eq_str, eq_bytes, tr_int, tr_bool, cd_int, cd_str, cd_bytes, cd_none, cd_bool, nocontains, String.reduceEq, if_true, if_false, Bool.false_eq_true, Option.map_some, ex_tup_call, ex_tup_disp, namesOf_nil, namesOf_name, putsO_some, puts_nil, puts_cons, tupV_some, tupD_some, evCO_some, evC_nil, evC_step, consC_some, List.map_cons, List.map_nil, methN_own, ev_meth_name, ev_meth_const, ev_meth_sub, ev_meth_call, callM_some, beq_self_eq_true, Bool.and_self, Bool.and_true, Nat.reduceLT, listO_s, tupO_s, List.length_cons, List.length_nil, Nat.reduceAdd, Nat.reduceLeDiff, methN_val, List.all_nil, List.all_cons, decide_true, decide_false, List.take_succ_cons, List.take_zero, List.nil_append, List.cons_append, getV_put, hput, nG_len, callF_bi _ b_len, hlen, nG_legs, hi, dot_len m hm, bo_modI (show (4 : Int) ≠ 0 by decide), hb]
      cases b with
      | true => simp only [exs_nil, exs_cons, andThen_next, andThen_brk, andThen_ret, ifS_true, ifS_false, ex_if, ex_pass, ex_break, retS_some, ex_ret, asgS_some, ex_asg, augS_some, ex_aug, appS_some, ex_app, forS_some, ex_for, ex_while, ev_const, ev_name, bin2_some, ev_bin, negO_some, ev_neg, ifE_true, ifE_false, ev_if, ev_list, ev_tuple, cons2_some, evs_nil, evs_cons, cmp2_some, evT_cmp, ev_cmp, truthO_some, evT_name, evT_bin, evT_and, evT_or, evT_not, andS_true, andS_false, orS_true, orS_false, evA_nil, evR_nil, evA_cons, evR_cons, ev_call, evT_call, slice4_some, ev_slice, evO_none, evO_some, idxO_some, ev_idx_name, ev_idx_const, ev_idx_bin, ev_idx_un, ev_comp, evI_name, evI_list, evI_slice, evI_range, rangeO_some, getV_val, getV_own, lookup_s, put_nil, put_s, freeze_miss, freeze0, own0, asg0, aug0, for0, eq_self, not_false_eq_true, not_true_eq_false, vI, vS, vB, vL, vO, bo_addI, bo_subI, bo_andI, cm_eq, cm_ne, cm_lt, cm_le, cm_gt, cm_ge, eq_int, eq_str, eq_bytes, tr_int, tr_bool, cd_int, cd_str, cd_bytes, cd_none, cd_bool, nocontains, String.reduceEq, if_true, if_false, Bool.false_eq_true, Option.map_some, ex_tup_call, ex_tup_disp, namesOf_nil, namesOf_name, putsO_some, puts_nil, puts_cons, tupV_some, tupD_some, evCO_some, evC_nil, evC_step, consC_some, List.map_cons, List.map_nil, methN_own, ev_meth_name, ev_meth_const, ev_meth_sub, ev_meth_call, callM_some, beq_self_eq_true, Bool.and_self, Bool.and_true, Nat.reduceLT, listO_s, tupO_s, List.length_cons, List.length_nil, Nat.reduceAdd, Nat.reduceLeDiff, methN_val, List.all_nil, List.all_cons, decide_true, decide_false, List.take_succ_cons, List.take_zero, List.nil_append, List.cons_append, nG_found]
      | false => simp only [exs_nil, exs_cons, andThen_next, andThen_brk, andThen_ret, ifS_true, ifS_false, ex_if, ex_pass, ex_break, retS_some, ex_ret, asgS_some, ex_asg, augS_some, ex_aug, appS_some, ex_app, forS_some, ex_for, ex_while, ev_const, ev_name, bin2_some, ev_bin, negO_some, ev_neg, ifE_true, ifE_false, ev_if, ev_list, ev_tuple, cons2_some, evs_nil, evs_cons, cmp2_some, evT_cmp, ev_cmp, truthO_some, evT_name, evT_bin, evT_and, evT_or, evT_not, andS_true, andS_false, orS_true, orS_false, evA_nil, evR_nil, evA_cons, evR_cons, ev_call, evT_call, slice4_some, ev_slice, evO_none, evO_some, idxO_some, ev_idx_name, ev_idx_const, ev_idx_bin, ev_idx_un, ev_comp, evI_name, evI_list, evI_slice, evI_range, rangeO_some, getV_val, getV_own, lookup_s, put_nil, put_s, freeze_miss, freeze0, own0, asg0, aug0, for0, eq_self, not_false_eq_true, not_true_eq_false, vI, vS, vB, vL, vO, bo_addI, bo_subI, bo_andI, cm_eq, cm_ne, cm_lt, cm_le, cm_gt, cm_ge, eq_int, eq_str, eq_bytes, tr_int, tr_bool, cd_int, cd_str, cd_bytes, cd_none, cd_bool, nocontains, String.reduceEq, if_true, if_false, Bool.false_eq_true, Option.map_some, ex_tup_call, ex_tup_disp, namesOf_nil, namesOf_name, putsO_some, puts_nil, puts_cons, tupV_some, tupD_some, evCO_some, evC_nil, evC_step, consC_some, List.map_cons, List.map_nil, methN_own, ev_meth_name, ev_meth_const, ev_meth_sub, ev_meth_call, callM_some, beq_self_eq_true, Bool.and_self, Bool.and_true, Nat.reduceLT, listO_s, tupO_s, List.length_cons, List.length_nil, Nat.reduceAdd, Nat.reduceLeDiff, methN_val, List.all_nil, List.all_cons, decide_true, decide_false, List.take_succ_cons, List.take_zero, List.nil_append, List.cons_append, nG_found]
    · intro y hy
      unfold rowsM rowsD at hy
      obtain ⟨z, hz, rfl⟩ := List.mem_map.mp hy
      obtain ⟨x, hxm, rfl⟩ := List.mem_map.mp hz
      have hc : (dotR x).length ≤ cap := by
        unfold dotR
        rw [List.length_replicate]
        exact le_cap (by have := hx x hxm; omega)
      have hl : builtin? (Str.ofString "len") [.str (sl (dotR x))] = some (.int ((sl (dotR x)).length : Nat)) := by
        rw [lenS hc, sl_len]
      refine ⟨?_, fun _ => ⟨?_, rfl⟩⟩
      · simp only [exs_nil, exs_cons, andThen_next, andThen_brk, andThen_ret, ifS_true, ifS_false, ex_if, ex_pass, ex_break, retS_some, ex_ret, asgS_some, ex_asg, augS_some, ex_aug, appS_some, ex_app, forS_some, ex_for, ex_while, ev_const, ev_name, bin2_some, ev_bin, negO_some, ev_neg, ifE_true, ifE_false, ev_if, ev_list, ev_tuple, cons2_some, evs_nil, evs_cons, cmp2_some, evT_cmp, ev_cmp, truthO_some, evT_name, evT_bin, evT_and, evT_or, evT_not, andS_true, andS_false, orS_true, orS_false, evA_nil, evR_nil, evA_cons, evR_cons, ev_call, evT_call, slice4_some, ev_slice, evO_none, evO_some, idxO_some, ev_idx_name, ev_idx_const, ev_idx_bin, ev_idx_un, ev_comp, evI_name, evI_list, evI_slice, evI_range, rangeO_some, getV_val, getV_own, lookup_s, put_nil, put_s, freeze_miss, freeze0, own0, asg0, aug0, for0, eq_self, not_false_eq_true, not_true_eq_false, vI, vS, vB, vL, vO, bo_addI, bo_subI, bo_andI, cm_eq, cm_ne, cm_lt, cm_le, cm_gt, cm_ge, eq_int, eq_str, eq_bytes, tr_int, tr_bool, cd_int, cd_str, cd_bytes, cd_none, cd_bool, nocontains, String.reduceEq, if_true, if_false, Bool.false_eq_true, Option.map_some, ex_tup_call, ex_tup_disp, namesOf_nil, namesOf_name, putsO_some, puts_nil, puts_cons, tupV_some, tupD_some, evCO_some, evC_nil, evC_step, consC_some, List.map_cons, List.map_nil, methN_own, ev_meth_name, ev_meth_const, ev_meth_sub, ev_meth_call, callM_some, beq_self_eq_true, Bool.and_self, Bool.and_true, Nat.reduceLT, listO_s, tupO_s, List.length_cons, List.length_nil, Nat.reduceAdd, Nat.reduceLeDiff, methN_val, List.all_nil, List.all_cons, decide_true, decide_false, List.take_succ_cons, List.take_zero, List.nil_append, List.cons_append, lookup_k, callF_bi _ b_len, hl]
        show andS _ _ _ _ (some (decide _)) = some (decide _)
        cases decide (((sl (dotR x)).length : Int) > (d : Int)) <;> rfl
      · simp only [exs_nil, exs_cons, andThen_next, andThen_brk, andThen_ret, ifS_true, ifS_false, ex_if, ex_pass, ex_break, retS_some, ex_ret, asgS_some, ex_asg, augS_some, ex_aug, appS_some, ex_app, forS_some, ex_for, ex_while, ev_const, ev_name, bin2_some, ev_bin, negO_some, ev_neg, ifE_true, ifE_false, ev_if, ev_list, ev_tuple, cons2_some, evs_nil, evs_cons, cmp2_some, evT_cmp, ev_cmp, truthO_some, evT_name, evT_bin, evT_and, evT_or, evT_not, andS_true, andS_false, orS_true, orS_false, evA_nil, evR_nil, evA_cons, evR_cons, ev_call, evT_call, slice4_some, ev_slice, evO_none, evO_some, idxO_some, ev_idx_name, ev_idx_const, ev_idx_bin, ev_idx_un, ev_comp, evI_name, evI_list, evI_slice, evI_range, rangeO_some, getV_val, getV_own, lookup_s, put_nil, put_s, freeze_miss, freeze0, own0, asg0, aug0, for0, eq_self, not_false_eq_true, not_true_eq_false, vI, vS, vB, vL, vO, bo_addI, bo_subI, bo_andI, cm_eq, cm_ne, cm_lt, cm_le, cm_gt, cm_ge, eq_int, eq_str, eq_bytes, tr_int, tr_bool, cd_int, cd_str, cd_bytes, cd_none, cd_bool, nocontains, String.reduceEq, if_true, if_false, Bool.false_eq_true, Option.map_some, ex_tup_call, ex_tup_disp, namesOf_nil, namesOf_name, putsO_some, puts_nil, puts_cons, tupV_some, tupD_some, evCO_some, evC_nil, evC_step, consC_some, List.map_cons, List.map_nil, methN_own, ev_meth_name, ev_meth_const, ev_meth_sub, ev_meth_call, callM_some, beq_self_eq_true, Bool.and_self, Bool.and_true, Nat.reduceLT, listO_s, tupO_s, List.length_cons, List.length_nil, Nat.reduceAdd, Nat.reduceLeDiff, methN_val, List.all_nil, List.all_cons, decide_true, decide_false, List.take_succ_cons, List.take_zero, List.nil_append, List.cons_append]
  · decide +kernel
end
noncomputable def hk (m : Nat) (S : List Nat) (j : Nat) : Nat := if (m - j + lg S (j + 1)) % 4 = 0 then 1 else 0
noncomputable def hkS (m : Nat) (S : List Nat) (js : List Nat) : Nat := (js.map (hk m S)).sum
theorem hk_int (m j : Nat) (S : List Nat) (h : j < m) : decide ((((m + 1 : Nat) : Int) - ((j + 1 : Nat) : Int) + (lg S (j + 1) : Nat)).fmod 4 = 0) = decide ((m - j + lg S (j + 1)) % 4 = 0) := by
  rw [show (((m + 1 : Nat) : Int) - ((j + 1 : Nat) : Int) + (lg S (j + 1) : Nat)) = ((m - j + lg S (j + 1) : Nat) : Int) by omega, Int.fmod_eq_emod_of_nonneg _ (by decide)]
  exact decide_eq_decide.mpr (by omega)
theorem wG_inner (Φ : Fns) (R : List D) (k : Int) (m : Nat) (S : List Nat) (hS : S.length ≤ 100) (hx : ∀ x ∈ S, x ≤ 300) (hm : m ≤ 300) (hs : slice (.list R) (.int (k + 1)) .none .none = some (.list (rowsM S))) (hi : index (.list R) (.int k) = some (.str (sl (dotR m)))) :
    ∀ (js : List Nat) (f : Nat) (t : Rho), (∀ j ∈ js, j < m) → (t = [] ∨ ∃ a l, t = [vI "dot" a, vI "legs" l]) →
    ∃ t', (t' = [] ∨ ∃ a l, t' = [vI "dot" a, vI "legs" l]) ∧ loopF (Str.ofString "dot") (exs Φ ({} : Pol) nG (inner? (inner? bG 1) 0)) (js.map fun (j : Nat) => .int ((j + 1 : Nat) : Int)) ([vL "rows" R, vI "found" (f : Int), vI "k" k] ++ t) = some (Fl.next, [vL "rows" R, vI "found" ((f + hkS m S js : Nat) : Int), vI "k" k] ++ t')
  | [], f, t, _, ht => ⟨t, ht, rfl⟩
  | j :: js, f, t, hj, ht => by
    obtain ⟨t1, ht1, hput⟩ : ∃ t1, (t1 = [] ∨ ∃ l, t1 = [vI "legs" l]) ∧ put ([vL "rows" R, vI "found" (f : Int), vI "k" k] ++ t) (Str.ofString "dot") (.val (.int ((j + 1 : Nat) : Int))) = [vL "rows" R, vI "found" (f : Int), vI "k" k, vI "dot" ((j + 1 : Nat) : Int)] ++ t1 := by
      rcases ht with rfl | ⟨a, l, rfl⟩
      · exact ⟨[], .inl rfl, by simp only [List.cons_append, List.nil_append, put_s, put_nil, String.reduceEq, if_true, if_false]⟩
      · exact ⟨[vI "legs" l], .inr ⟨l, rfl⟩, by simp only [List.cons_append, List.nil_append, put_s, put_nil, String.reduceEq, if_true, if_false]⟩
    rw [List.map_cons, loopF, hput, wG_body Φ R f k (j + 1) m S t1 ht1 hS hx hm hs hi _ (hk_int m j S (hj j (.head _))), turn_next]
    have e : (if decide ((m - j + lg S (j + 1)) % 4 = 0) = true then (f : Int) + 1 else (f : Int)) = ((f + hk m S j : Nat) : Int) := by
      unfold hk
      by_cases h : (m - j + lg S (j + 1)) % 4 = 0
      · rw [if_pos h, if_pos (decide_eq_true h)]; omega
      · rw [if_neg h, if_neg (by rw [decide_eq_false h]; exact Bool.false_ne_true)]; rfl
    rw [e]
    obtain ⟨t', ht', hl⟩ := wG_inner Φ R k m S hS hx hm hs hi js (f + hk m S j) [vI "dot" _, vI "legs" _] (fun x h => hj x (.tail _ h)) (.inr ⟨_, _, rfl⟩)
    refine ⟨t', ht', ?_⟩
    rw [show f + hkS m S (j :: js) = f + hk m S j + hkS m S js by unfold hkS; rw [List.map_cons, List.sum_cons]; omega]
    exact hl
noncomputable def hooksF : List Nat → Nat
  | [] => 0
  | m :: S => hkS m S (List.range m) + hooksF S
theorem range_b (n : Nat) (h : n ≤ 100000) : range? [.int (n : Int)] = some ((List.range n).map fun (k : Nat) => .int (k : Int)) := by
  have e : range? [.int (n : Int)] = if (decide ((-1000000 : Int) ≤ (n : Int)) && decide ((n : Int) ≤ 1000000)) = true then some (rangeL 0 1 (n : Int).toNat) else none := rfl
  rw [e, if_pos (by simp; omega)]
  unfold rangeL
  simp
theorem range_1 (m : Nat) (h : m ≤ 100000) : range? [.int 1, .int ((m + 1 : Nat) : Int)] = some ((List.range m).map fun (j : Nat) => .int ((j + 1 : Nat) : Int)) := by
  have e : range? [.int 1, .int ((m + 1 : Nat) : Int)] = if (decide ((-1000000 : Int) ≤ 1) && decide ((1 : Int) ≤ 1000000) && decide ((-1000000 : Int) ≤ ((m + 1 : Nat) : Int)) && decide (((m + 1 : Nat) : Int) ≤ 1000000)) = true then some (rangeL 1 1 (((m + 1 : Nat) : Int) - 1).toNat) else none := rfl
  rw [e, if_pos (by simp; omega)]
  unfold rangeL
  rw [show (((m + 1 : Nat) : Int) - 1).toNat = m by omega]
  refine congrArg some (List.map_congr_left fun j _ => ?_)
  exact congrArg D.int (by omega)
theorem wG_outer (Φ : Fns) (M : List Nat) (hM : M.length ≤ 99) (hx : ∀ x ∈ M, x ≤ 290) : ∀ (Y X : List Nat) (f : Nat) (t : Rho), M = X ++ Y → (t = [] ∨ ∃ k t1, t = vI "k" k :: t1 ∧ (t1 = [] ∨ ∃ a l, t1 = [vI "dot" a, vI "legs" l])) →
    ∃ t', loopF (Str.ofString "k") (exs Φ ({} : Pol) nG (inner? bG 1)) ((List.range' X.length Y.length).map fun (j : Nat) => .int (j : Int)) ([vL "rows" (rowsM M), vI "found" (f : Int)] ++ t) = some (Fl.next, [vL "rows" (rowsM M), vI "found" ((f + hooksF Y : Nat) : Int)] ++ t')
  | [], X, f, t, _, _ => ⟨t, rfl⟩
  | m :: Y, X, f, t, e, ht => by
    obtain ⟨t1, ht1, hput⟩ : ∃ t1, (t1 = [] ∨ ∃ a l, t1 = [vI "dot" a, vI "legs" l]) ∧ put ([vL "rows" (rowsM M), vI "found" (f : Int)] ++ t) (Str.ofString "k") (.val (.int (X.length : Int))) = [vL "rows" (rowsM M), vI "found" (f : Int), vI "k" (X.length : Int)] ++ t1 := by
      rcases ht with rfl | ⟨k, t1, rfl, h⟩
      · exact ⟨[], .inl rfl, by simp only [List.cons_append, List.nil_append, put_s, put_nil, String.reduceEq, if_true, if_false]⟩
      · exact ⟨t1, h, by simp only [List.cons_append, List.nil_append, put_s, put_nil, String.reduceEq, if_true, if_false]⟩
    have hmx : m ≤ 290 := hx m (by rw [e]; exact List.mem_append_right _ (.head _))
    have hlen : X.length + (Y.length + 1) ≤ 99 := by rw [e, List.length_append, List.length_cons] at hM; exact hM
    have hi : index (.list (rowsM M)) (.int (X.length : Int)) = some (.str (sl (dotR m))) := rowsM_at (by rw [e, List.getElem?_append_right (Nat.le_refl _), Nat.sub_self]; rfl) (by omega)
    have hs : slice (.list (rowsM M)) (.int ((X.length : Int) + 1)) .none .none = some (.list (rowsM Y)) := by
      have := rowsM_drop M (X.length + 1) (by omega) (by omega)
      rw [show M.drop (X.length + 1) = Y by rw [e, ← List.drop_drop, List.drop_left]; rfl] at this
      exact this
    obtain ⟨t2, ht2, hin⟩ := wG_inner Φ (rowsM M) (X.length : Int) m Y (by omega) (fun x h => by have := hx x (by rw [e]; exact List.mem_append_right _ (.tail _ h)); omega) (by omega) hs hi (List.range m) f t1 (fun j hj => List.mem_range.mp hj) ht1
    have hb : inner? bG 1 = [.For (.Name (Str.ofString "dot") (tpos? (inner? bG 1) 0)) (tst? (inner? bG 1) 0) (inner? (inner? bG 1) 0) [] (pos? (inner? bG 1) 0)] := rfl
    have hit : evI Φ (tst? (inner? bG 1) 0) nG ([vL "rows" (rowsM M), vI "found" (f : Int), vI "k" (X.length : Int)] ++ t1) = some ((List.range m).map fun (j : Nat) => .int ((j + 1 : Nat) : Int)) := by
      conv => lhs; arg 2; whnf
      simp only [exs_nil, exs_cons, andThen_next, andThen_brk, andThen_ret, ifS_true, ifS_false, ex_if, ex_pass, ex_break, retS_some, ex_ret, asgS_some, ex_asg, augS_some, ex_aug, appS_some, ex_app, forS_some, ex_for, ex_while, ev_const, ev_name, bin2_some, ev_bin, negO_some, ev_neg, ifE_true, ifE_false, ev_if, ev_list, ev_tuple, cons2_some, evs_nil, evs_cons, cmp2_some, evT_cmp, ev_cmp, truthO_some, evT_name, evT_bin, evT_and, evT_or, evT_not, andS_true, andS_false, orS_true, orS_false, evA_nil, evR_nil, evA_cons, evR_cons, ev_call, evT_call, slice4_some, ev_slice, evO_none, evO_some, idxO_some, ev_idx_name, ev_idx_const, ev_idx_bin, ev_idx_un, ev_comp, evI_name, evI_list, evI_slice, evI_range, rangeO_some, getV_val, getV_own, lookup_s, put_nil, put_s, freeze_miss, freeze0, own0, asg0, aug0, for0, eq_self, not_false_eq_true, not_true_eq_false, vI, vS, vB, vL, vO, bo_addI, bo_subI, bo_andI, cm_eq, cm_ne, cm_lt, cm_le, cm_gt, cm_ge, eq_int, eq_str, eq_bytes, tr_int, tr_bool, cd_int, cd_str, cd_bytes, cd_none, cd_bool, nocontains, String.reduceEq, if_true, if_false, Bool.false_eq_true, Option.map_some, ex_tup_call, ex_tup_disp, namesOf_nil, namesOf_name, putsO_some, puts_nil, puts_cons, tupV_some, tupD_some, evCO_some, evC_nil, evC_step, consC_some, List.map_cons, List.map_nil, methN_own, ev_meth_name, ev_meth_const, ev_meth_sub, ev_meth_call, callM_some, beq_self_eq_true, Bool.and_self, Bool.and_true, Nat.reduceLT, listO_s, tupO_s, List.length_cons, List.length_nil, Nat.reduceAdd, Nat.reduceLeDiff, methN_val, List.all_nil, List.all_cons, decide_true, decide_false, List.take_succ_cons, List.take_zero, List.nil_append, List.cons_append, nG_rng, hi, nG_len, callF_bi _ b_len, dot_len m (show m ≤ 300 by omega), range_1 m (show m ≤ 100000 by omega)]
    have hstep : exs Φ ({} : Pol) nG (inner? bG 1) ([vL "rows" (rowsM M), vI "found" (f : Int), vI "k" (X.length : Int)] ++ t1) = some (Fl.next, [vL "rows" (rowsM M), vI "found" ((f + hkS m Y (List.range m) : Nat) : Int), vI "k" (X.length : Int)] ++ t2) := by
      rw [hb, exs_cons, ex_for, freeze0, hit, for0 nG_dot (by rw [List.all_eq_true]; intro x hx; obtain ⟨j, _, rfl⟩ := List.mem_map.mp hx; rfl), hin, andThen_next, exs_nil]
    rw [List.length_cons, List.range'_succ, List.map_cons, loopF, hput, hstep, turn_next]
    obtain ⟨t', hl⟩ := wG_outer Φ M hM hx Y (X ++ [m]) (f + hkS m Y (List.range m)) (vI "k" (X.length : Int) :: t2) (by rw [e, List.append_assoc]; rfl) (.inr ⟨_, t2, rfl, ht2⟩)
    refine ⟨t', ?_⟩
    rw [show f + hooksF (m :: Y) = f + hkS m Y (List.range m) + hooksF Y by rw [hooksF]; omega]
    rw [List.length_append, List.length_singleton] at hl
    exact hl
theorem run_G (Φ : Fns) (M : List Nat) (hM : M.length ≤ 99) (hx : ∀ x ∈ M, x ≤ 290) : ∃ ρ', exs Φ ({} : Pol) nG bG [vL "rows" (rowsM M)] = some (.ret (.int (hooksF M : Nat)), ρ') := by
  rw [exs_at Φ _ _ _ (k := 1) (st := .For (.Name (Str.ofString "k") (tpos? bG 1)) (tst? bG 1) (inner? bG 1) [] (pos? bG 1)) rfl]
  have head : exs Φ ({} : Pol) nG (bG.take 1) [vL "rows" (rowsM M)] = some (.next, [vL "rows" (rowsM M), vI "found" ((0 : Nat) : Int)] ++ []) := by
    conv => lhs; arg 4; whnf
    simp only [exs_nil, exs_cons, andThen_next, andThen_brk, andThen_ret, ifS_true, ifS_false, ex_if, ex_pass, ex_break, retS_some, ex_ret, asgS_some, ex_asg, augS_some, ex_aug, appS_some, ex_app, forS_some, ex_for, ex_while, ev_const, ev_name, bin2_some, ev_bin, negO_some, ev_neg, ifE_true, ifE_false, ev_if, ev_list, ev_tuple, cons2_some, evs_nil, evs_cons, cmp2_some, evT_cmp, ev_cmp, truthO_some, evT_name, evT_bin, evT_and, evT_or, evT_not, andS_true, andS_false, orS_true, orS_false, evA_nil, evR_nil, evA_cons, evR_cons, ev_call, evT_call, slice4_some, ev_slice, evO_none, evO_some, idxO_some, ev_idx_name, ev_idx_const, ev_idx_bin, ev_idx_un, ev_comp, evI_name, evI_list, evI_slice, evI_range, rangeO_some, getV_val, getV_own, lookup_s, put_nil, put_s, freeze_miss, freeze0, own0, asg0, aug0, for0, eq_self, not_false_eq_true, not_true_eq_false, vI, vS, vB, vL, vO, bo_addI, bo_subI, bo_andI, cm_eq, cm_ne, cm_lt, cm_le, cm_gt, cm_ge, eq_int, eq_str, eq_bytes, tr_int, tr_bool, cd_int, cd_str, cd_bytes, cd_none, cd_bool, nocontains, String.reduceEq, if_true, if_false, Bool.false_eq_true, Option.map_some, ex_tup_call, ex_tup_disp, namesOf_nil, namesOf_name, putsO_some, puts_nil, puts_cons, tupV_some, tupD_some, evCO_some, evC_nil, evC_step, consC_some, List.map_cons, List.map_nil, methN_own, ev_meth_name, ev_meth_const, ev_meth_sub, ev_meth_call, callM_some, beq_self_eq_true, Bool.and_self, Bool.and_true, Nat.reduceLT, listO_s, tupO_s, List.length_cons, List.length_nil, Nat.reduceAdd, Nat.reduceLeDiff, methN_val, List.all_nil, List.all_cons, decide_true, decide_false, List.take_succ_cons, List.take_zero, List.nil_append, List.cons_append, nG_found]
    rfl
  have hlen : builtin? (Str.ofString "len") [.list (rowsM M)] = some (.int (M.length : Nat)) := by
    rw [lenL (by rw [rowsM_len]; exact le_cap (by omega)), rowsM_len]
  have hit : evI Φ (tst? bG 1) nG ([vL "rows" (rowsM M), vI "found" ((0 : Nat) : Int)] ++ []) = some ((List.range' 0 M.length).map fun (j : Nat) => .int (j : Int)) := by
    conv => lhs; arg 2; whnf
    simp only [exs_nil, exs_cons, andThen_next, andThen_brk, andThen_ret, ifS_true, ifS_false, ex_if, ex_pass, ex_break, retS_some, ex_ret, asgS_some, ex_asg, augS_some, ex_aug, appS_some, ex_app, forS_some, ex_for, ex_while, ev_const, ev_name, bin2_some, ev_bin, negO_some, ev_neg, ifE_true, ifE_false, ev_if, ev_list, ev_tuple, cons2_some, evs_nil, evs_cons, cmp2_some, evT_cmp, ev_cmp, truthO_some, evT_name, evT_bin, evT_and, evT_or, evT_not, andS_true, andS_false, orS_true, orS_false, evA_nil, evR_nil, evA_cons, evR_cons, ev_call, evT_call, slice4_some, ev_slice, evO_none, evO_some, idxO_some, ev_idx_name, ev_idx_const, ev_idx_bin, ev_idx_un, ev_comp, evI_name, evI_list, evI_slice, evI_range, rangeO_some, getV_val, getV_own, lookup_s, put_nil, put_s, freeze_miss, freeze0, own0, asg0, aug0, for0, eq_self, not_false_eq_true, not_true_eq_false, vI, vS, vB, vL, vO, bo_addI, bo_subI, bo_andI, cm_eq, cm_ne, cm_lt, cm_le, cm_gt, cm_ge, eq_int, eq_str, eq_bytes, tr_int, tr_bool, cd_int, cd_str, cd_bytes, cd_none, cd_bool, nocontains, String.reduceEq, if_true, if_false, Bool.false_eq_true, Option.map_some, ex_tup_call, ex_tup_disp, namesOf_nil, namesOf_name, putsO_some, puts_nil, puts_cons, tupV_some, tupD_some, evCO_some, evC_nil, evC_step, consC_some, List.map_cons, List.map_nil, methN_own, ev_meth_name, ev_meth_const, ev_meth_sub, ev_meth_call, callM_some, beq_self_eq_true, Bool.and_self, Bool.and_true, Nat.reduceLT, listO_s, tupO_s, List.length_cons, List.length_nil, Nat.reduceAdd, Nat.reduceLeDiff, methN_val, List.all_nil, List.all_cons, decide_true, decide_false, List.take_succ_cons, List.take_zero, List.nil_append, List.cons_append, nG_rng, nG_len, callF_bi _ b_len, hlen, range_b M.length (show M.length ≤ 100000 by omega), List.range_eq_range']
  rw [head, andThen_next, exs_cons, ex_for, freeze0, hit, for0 nG_k (by rw [List.all_eq_true]; intro x hx; obtain ⟨j, _, rfl⟩ := List.mem_map.mp hx; rfl)]
  obtain ⟨t', hl⟩ := wG_outer Φ M hM hx M [] 0 [] rfl (.inl rfl)
  rw [show (List.range' 0 M.length) = List.range' ([] : List Nat).length M.length from rfl, hl, andThen_next, Nat.zero_add]
  refine ⟨[vL "rows" (rowsM M), vI "found" (hooksF M : Nat)] ++ t', ?_⟩
  conv => lhs; arg 4; whnf
  simp only [exs_nil, exs_cons, andThen_next, andThen_brk, andThen_ret, ifS_true, ifS_false, ex_if, ex_pass, ex_break, retS_some, ex_ret, asgS_some, ex_asg, augS_some, ex_aug, appS_some, ex_app, forS_some, ex_for, ex_while, ev_const, ev_name, bin2_some, ev_bin, negO_some, ev_neg, ifE_true, ifE_false, ev_if, ev_list, ev_tuple, cons2_some, evs_nil, evs_cons, cmp2_some, evT_cmp, ev_cmp, truthO_some, evT_name, evT_bin, evT_and, evT_or, evT_not, andS_true, andS_false, orS_true, orS_false, evA_nil, evR_nil, evA_cons, evR_cons, ev_call, evT_call, slice4_some, ev_slice, evO_none, evO_some, idxO_some, ev_idx_name, ev_idx_const, ev_idx_bin, ev_idx_un, ev_comp, evI_name, evI_list, evI_slice, evI_range, rangeO_some, getV_val, getV_own, lookup_s, put_nil, put_s, freeze_miss, freeze0, own0, asg0, aug0, for0, eq_self, not_false_eq_true, not_true_eq_false, vI, vS, vB, vL, vO, bo_addI, bo_subI, bo_andI, cm_eq, cm_ne, cm_lt, cm_le, cm_gt, cm_ge, eq_int, eq_str, eq_bytes, tr_int, tr_bool, cd_int, cd_str, cd_bytes, cd_none, cd_bool, nocontains, String.reduceEq, if_true, if_false, Bool.false_eq_true, Option.map_some, ex_tup_call, ex_tup_disp, namesOf_nil, namesOf_name, putsO_some, puts_nil, puts_cons, tupV_some, tupD_some, evCO_some, evC_nil, evC_step, consC_some, List.map_cons, List.map_nil, methN_own, ev_meth_name, ev_meth_const, ev_meth_sub, ev_meth_call, callM_some, beq_self_eq_true, Bool.and_self, Bool.and_true, Nat.reduceLT, listO_s, tupO_s, List.length_cons, List.length_nil, Nat.reduceAdd, Nat.reduceLeDiff, methN_val, List.all_nil, List.all_cons, decide_true, decide_false, List.take_succ_cons, List.take_zero, List.nil_append, List.cons_append]
end Mine
end
section
open PySem
set_option maxRecDepth 100000
set_option Elab.async false
set_option maxHeartbeats 4000000
namespace Mine
/-- the places of the ones -/
noncomputable def plcS (z : Nat) : List Nat → List Nat
  | [] => []
  | x :: xs => (x + xs.length + z) :: plcS z xs
noncomputable def numP (ps : List Nat) : Nat := (ps.map fun p => 2 ^ p).sum
noncomputable def Dec (M : List Nat) : Prop := M.Pairwise (fun a b => b ≤ a)
theorem numP_cons (p : Nat) (ps : List Nat) : numP (p :: ps) = 2 ^ p + numP ps := by unfold numP; rw [List.map_cons, List.sum_cons]
theorem numP_app (a b : List Nat) : numP (a ++ b) = numP a + numP b := by unfold numP; rw [List.map_append, List.sum_append]
theorem plcS_len (z : Nat) : ∀ X : List Nat, (plcS z X).length = X.length
  | [] => rfl
  | x :: X => by rw [plcS, List.length_cons, plcS_len z X, List.length_cons]
theorem plcS_app (z : Nat) (Y : List Nat) : ∀ X : List Nat, plcS z (X ++ Y) = plcS (Y.length + z) X ++ plcS z Y
  | [] => rfl
  | x :: X => by
    rw [List.cons_append, plcS, plcS_app z Y X, plcS, List.cons_append, List.length_append]
    congr 1
    omega
theorem plcS_up (z : Nat) : ∀ X : List Nat, plcS z (up X) = plcS (z + 1) X
  | [] => rfl
  | x :: X => by
    have ih := plcS_up z X
    unfold up at ih ⊢
    rw [List.map_cons, plcS, plcS, ih, List.length_map]
    congr 1
    omega
theorem num_succ : ∀ (X : List Nat) (z : Nat), numP (plcS (z + 1) X) = 2 * numP (plcS z X)
  | [], z => rfl
  | x :: X, z => by
    rw [plcS, plcS, numP_cons, numP_cons, num_succ X z, show x + X.length + (z + 1) = x + X.length + z + 1 by omega, Nat.pow_succ]
    omega
theorem num_bit (b : Bool) (M : List Nat) : numP (plcS 0 (bitM b M)) = 2 * numP (plcS 0 M) + (if b = true then 1 else 0) := by
  cases b with
  | true =>
    show numP (plcS 0 (M ++ [0])) = _
    rw [plcS_app, numP_app, show ([0] : List Nat).length + 0 = 0 + 1 from rfl, num_succ]; rfl
  | false =>
    show numP (plcS 0 (up M)) = _
    rw [plcS_up, num_succ]; rfl
theorem dec_bit (b : Bool) (M : List Nat) (h : Dec M) : Dec (bitM b M) := by
  cases b with
  | true =>
    show List.Pairwise _ (M ++ [0])
    rw [List.pairwise_append]
    exact ⟨h, List.pairwise_singleton .., fun a _ b hb => by rw [List.mem_singleton.mp hb]; exact Nat.zero_le _⟩
  | false =>
    show List.Pairwise _ (M.map (· + 1))
    rw [List.pairwise_map]
    exact List.Pairwise.imp (fun {a b} hab => by omega) h
theorem bit_mod (x : Nat) : (if decide (x % 2 = 1) = true then 1 else 0) = x % 2 := by
  by_cases h : x % 2 = 1
  · rw [decide_eq_true h, h]; rfl
  · rw [decide_eq_false h]
    exact (Nat.mod_two_ne_one.mp h).symm
theorem num_bit' (x : Nat) (M : List Nat) : numP (plcS 0 (bitM (decide (x % 2 = 1)) M)) = 2 * numP (plcS 0 M) + x % 2 := by rw [num_bit, bit_mod]
theorem four_bits (d : Nat) (hd : d < 16) (n : Nat) : 2 * (2 * (2 * (2 * n + d / 8 % 2) + d / 4 % 2) + d / 2 % 2) + d % 2 = 16 * n + d := by omega
theorem num_let (M : List Nat) (d : Nat) (hd : d < 16) : numP (plcS 0 (letM M d)) = 16 * numP (plcS 0 M) + d := by
  unfold letM
  rw [num_bit', num_bit', num_bit', num_bit', four_bits d hd]
theorem dec_let (M : List Nat) (d : Nat) (h : Dec M) : Dec (letM M d) := dec_bit _ _ (dec_bit _ _ (dec_bit _ _ (dec_bit _ _ h)))
/-- the letters' numbers -/
noncomputable def hexD : Nat → Nat → List Nat
  | 0, _ => []
  | f + 1, n => if n = 0 then [] else hexD f (n / 16) ++ [n % 16]
theorem hexD_lt : ∀ (f n : Nat), ∀ d ∈ hexD f n, d < 16
  | 0, n, d, h => nomatch h
  | f + 1, n, d, h => by
    rw [hexD] at h
    split at h
    · nomatch h
    · rcases List.mem_append.mp h with h | h
      · exact hexD_lt f _ d h
      · rw [List.mem_singleton.mp h]; exact Nat.mod_lt _ (by decide)
theorem hexD_len : ∀ (f n : Nat), (hexD f n).length ≤ f
  | 0, n => Nat.le_refl _
  | f + 1, n => by
    rw [hexD]
    split
    · exact Nat.zero_le _
    · rw [List.length_append, List.length_singleton]
      have := hexD_len f (n / 16)
      omega
theorem hexF_D : ∀ (f n : Nat), hexF f n = wordB (hexD f n)
  | 0, n => rfl
  | f + 1, n => by
    rw [hexF, hexD, hexF_D f (n / 16)]
    split
    · rfl
    · unfold wordB
      rw [List.map_append]; rfl
theorem hexD_more (k : Nat) : ∀ (f n : Nat), n < 16 ^ f → hexD (f + k) n = hexD f n
  | 0, n, h => by
    have : n = 0 := by simpa using h
    subst this
    rw [Nat.zero_add]
    cases k with
    | zero => rfl
    | succ k => rfl
  | f + 1, n, h => by
    rw [show f + 1 + k = f + k + 1 by omega, hexD, hexD, hexD_more k f (n / 16) (by rw [Nat.pow_succ] at h; omega)]
theorem wordM_app (M : List Nat) (a b : List Nat) : wordM M (a ++ b) = wordM (wordM M a) b := List.foldl_append ..
theorem word_num : ∀ (f n : Nat), n < 16 ^ f → numP (plcS 0 (wordM [] (hexD f n))) = n ∧ Dec (wordM [] (hexD f n))
  | 0, n, h => by
    have : n = 0 := by simpa using h
    subst this
    exact ⟨rfl, List.Pairwise.nil⟩
  | f + 1, n, h => by
    rw [hexD]
    split
    · rename_i h0
      subst h0
      exact ⟨rfl, List.Pairwise.nil⟩
    · obtain ⟨h1, h2⟩ := word_num f (n / 16) (by rw [Nat.pow_succ] at h; omega)
      rw [wordM_app]
      show numP (plcS 0 (letM _ (n % 16))) = n ∧ Dec (letM _ (n % 16))
      rw [num_let _ _ (Nat.mod_lt _ (by decide)), h1]
      exact ⟨by omega, dec_let _ _ h2⟩
-- strictly decreasing places
theorem plcS_lt (z x : Nat) : ∀ X : List Nat, (∀ y ∈ X, y ≤ x) → ∀ q ∈ plcS z X, q < x + X.length + z
  | [], _, q, h => nomatch h
  | y :: X, hx, q, h => by
    rw [plcS] at h
    have hy := hx y (.head _)
    rw [List.length_cons]
    rcases List.mem_cons.mp h with h | h
    · omega
    · have := plcS_lt z x X (fun u hu => hx u (.tail _ hu)) q h
      omega
theorem plcS_dec (z : Nat) : ∀ X : List Nat, Dec X → (plcS z X).Pairwise (· > ·)
  | [], _ => List.Pairwise.nil
  | x :: X, h => by
    obtain ⟨h1, h2⟩ := List.pairwise_cons.mp h
    rw [plcS]
    exact List.pairwise_cons.mpr ⟨fun q hq => plcS_lt z x X h1 q hq, plcS_dec z X h2⟩
theorem numP_lt : ∀ (ps : List Nat) (k : Nat), ps.Pairwise (· > ·) → (∀ p ∈ ps, p < k) → numP ps < 2 ^ k
  | [], k, _, _ => Nat.two_pow_pos k
  | p :: ps, k, h, hk => by
    obtain ⟨h1, h2⟩ := List.pairwise_cons.mp h
    have ih := numP_lt ps p h2 h1
    have : 2 ^ (p + 1) ≤ 2 ^ k := Nat.pow_le_pow_right (by decide) (hk p (.head _))
    rw [Nat.pow_succ] at this
    rw [numP_cons]
    omega
theorem numP_mem {ps : List Nat} {p : Nat} (h : p ∈ ps) : 2 ^ p ≤ numP ps := by
  induction ps with
  | nil => nomatch h
  | cons q ps ih =>
    rw [numP_cons]
    rcases List.mem_cons.mp h with h | h
    · subst h; omega
    · have := ih h
      have := Nat.two_pow_pos q
      omega
theorem mem_lt {ps : List Nat} {p k : Nat} (h : p ∈ ps) (hk : numP ps < 2 ^ k) : p < k := by
  have := numP_mem h
  exact (Nat.pow_lt_pow_iff_right (by decide : 1 < 2)).mp (Nat.lt_of_le_of_lt this hk)
noncomputable def descL : Nat → List Nat
  | 0 => []
  | n + 1 => n :: descL n
theorem mem_desc : ∀ {n p : Nat}, p ∈ descL n ↔ p < n
  | 0, p => ⟨fun h => (nomatch h), fun h => by omega⟩
  | n + 1, p => by
    rw [descL, List.mem_cons, mem_desc]
    omega
theorem desc_succ : ∀ n : Nat, descL (n + 1) = (descL n).map (· + 1) ++ [0]
  | 0 => rfl
  | n + 1 => by
    have ih := desc_succ n
    show (n + 1) :: descL (n + 1) = (n :: descL n).map (· + 1) ++ [0]
    rw [ih, List.map_cons, List.cons_append]
noncomputable def bitO (N p : Nat) : Bool := decide (N / 2 ^ p % 2 = 1)
theorem bitO_add (k n p : Nat) (h : p < k) : bitO (2 ^ k + n) p = bitO n p := by
  unfold bitO
  obtain ⟨j, rfl⟩ : ∃ j, k = p + (j + 1) := ⟨k - p - 1, by omega⟩
  rw [Nat.pow_add, Nat.mul_add_div (Nat.two_pow_pos p), Nat.pow_succ]
  exact decide_eq_decide.mpr (by omega)
theorem ones_eq : ∀ (k : Nat) (ps : List Nat), ps.Pairwise (· > ·) → (∀ p ∈ ps, p < k) → (descL k).filter (bitO (numP ps)) = ps
  | 0, ps, _, h => by
    cases ps with
    | nil => rfl
    | cons p ps => have := h p (.head _); omega
  | k + 1, ps, h, hk => by
    by_cases hp : ∀ p ∈ ps, p < k
    · have hlt := numP_lt ps k h hp
      rw [descL, List.filter_cons, if_neg (by unfold bitO; rw [Nat.div_eq_of_lt hlt]; decide), ones_eq k ps h hp]
    · cases ps with
      | nil => exact absurd (fun p hp => nomatch hp) hp
      | cons p ps =>
        obtain ⟨h1, h2⟩ := List.pairwise_cons.mp h
        have hpk : p = k := by
          have := hk p (.head _)
          by_cases e : p = k
          · exact e
          · refine absurd (fun q hq => ?_) hp
            rcases List.mem_cons.mp hq with h | h
            · omega
            · have := h1 q h; omega
        subst hpk
        have hlt := numP_lt ps p h2 h1
        rw [numP_cons, descL, List.filter_cons, if_pos (by unfold bitO; rw [Nat.add_div_left _ (Nat.two_pow_pos p), Nat.div_eq_of_lt hlt]; decide)]
        congr 1
        have : (descL p).filter (bitO (2 ^ p + numP ps)) = (descL p).filter (bitO (numP ps)) := List.filter_congr fun q hq => bitO_add p _ q (mem_desc.mp hq)
        rw [this]
        exact ones_eq p ps h2 h1
end Mine
end
section
open PySem
set_option maxRecDepth 100000
set_option Elab.async false
set_option maxHeartbeats 4000000
namespace Mine
theorem climb_stop : ∀ (ra : List Nat) (mv a : Nat) (r : List Nat), (climbF ra mv).1 = a :: r → (climbF ra mv).2 ≤ a + 1
  | [], mv, a, r, h => nomatch h
  | x :: ra, mv, a, r, h => by
    rw [climbF] at h ⊢
    by_cases hx : x + 1 < mv
    · rw [if_pos hx] at h ⊢
      exact climb_stop ra (mv - 1) a r h
    · rw [if_neg hx] at h ⊢
      cases h
      exact Nat.le_of_not_lt hx
theorem climb_pass : ∀ (ra : List Nat) (mv : Nat) (p : List Nat), ra.Pairwise (fun a b => a ≤ b) → ra = p ++ (climbF ra mv).1 → ∀ x ∈ p, x + 1 ≤ (climbF ra mv).2
  | [], mv, p, _, e, x, hx => by
    have : p = [] := (List.append_eq_nil_iff.mp e.symm).1
    subst this
    nomatch hx
  | a :: ra, mv, p, hs, e, x, hx => by
    obtain ⟨h1, h2⟩ := List.pairwise_cons.mp hs
    rw [climbF] at e ⊢
    by_cases h : a + 1 < mv
    · rw [if_pos h] at e ⊢
      cases p with
      | nil => nomatch hx
      | cons y p =>
        rw [List.cons_append, List.cons.injEq] at e
        obtain ⟨rfl, e⟩ := e
        have ih := climb_pass ra (mv - 1) p h2 e
        rcases List.mem_cons.mp hx with rfl | hx
        · cases p with
          | nil =>
            obtain ⟨q, e1, e2⟩ := climb_len ra (mv - 1)
            have : q = [] := by
              have hl := congrArg List.length e1
              have hl2 := congrArg List.length e
              rw [List.length_append] at hl
              rw [List.nil_append] at hl2
              exact List.length_eq_zero_iff.mp (by omega)
            subst this
            rw [List.length_nil] at e2
            omega
          | cons z p =>
            have hz := ih z (.head _)
            have hxz := h1 z (by rw [e]; exact .head _)
            omega
        · exact ih x hx
    · rw [if_neg h] at e ⊢
      have : p = [] := by
        have hl : (a :: ra).length = (p ++ (a :: ra)).length := congrArg List.length e
        rw [List.length_append] at hl
        exact List.length_eq_zero_iff.mp (by omega)
      subst this
      nomatch hx
theorem nodup_of {ps : List Nat} (h : ps.Pairwise (· > ·)) {X Y : List Nat} {p : Nat} (e : ps = X ++ p :: Y) : p ∉ X ∧ p ∉ Y := by
  subst e
  rw [List.pairwise_append, List.pairwise_cons] at h
  refine ⟨fun hx => ?_, fun hy => ?_⟩
  · exact Nat.lt_irrefl _ (h.2.2 p hx p (.head _))
  · exact Nat.lt_irrefl _ (h.2.1.1 p hy)
/-- what a deed does -/
theorem climb_ok (A : List Nat) (m : Nat) (R : List Nat) (h : Dec (A ++ m :: R)) :
    (m + R.length + 4 ∈ plcS 0 (A ++ m :: R) ∧ clM A m R = A ++ m :: R) ∨
    (m + R.length + 4 ∉ plcS 0 (A ++ m :: R) ∧ Dec (clM A m R) ∧ numP (plcS 0 (clM A m R)) + 2 ^ (m + R.length) = numP (plcS 0 (A ++ m :: R)) + 2 ^ (m + R.length + 4) ∧ ∀ q ∈ plcS 0 (clM A m R), q = m + R.length + 4 ∨ q ∈ plcS 0 (A ++ m :: R)) := by
  obtain ⟨p, e1, e2⟩ := climb_len A.reverse (m + 4)
  have hA : A = (climbF A.reverse (m + 4)).1.reverse ++ p.reverse := by
    rw [← List.reverse_append, ← e1, List.reverse_reverse]
  have hdrop : A.drop (climbF A.reverse (m + 4)).1.length = p.reverse := by
    have := congrArg (List.drop (climbF A.reverse (m + 4)).1.length) hA
    rw [List.drop_left' (by rw [List.length_reverse])] at this
    exact this
  unfold Dec at h
  rw [List.pairwise_append, List.pairwise_cons] at h
  obtain ⟨dA, ⟨dm, dR⟩, dx⟩ := h
  have hstop := climb_stop A.reverse (m + 4)
  have hpass := climb_pass A.reverse (m + 4) p (by rw [List.pairwise_reverse]; exact dA) e1
  unfold clM
  rw [hdrop]
  generalize climbF A.reverse (m + 4) = c at *
  obtain ⟨rr, mv⟩ := c
  simp only at e1 e2 hA hstop hpass ⊢
  have hold : plcS 0 (A ++ m :: R) = plcS (p.length + (R.length + 1)) rr.reverse ++ (plcS (R.length + 1) p.reverse ++ (m + R.length) :: plcS 0 R) := by
    rw [hA, List.append_assoc, plcS_app, plcS_app, plcS, List.length_append, List.length_reverse, List.length_cons]
    rfl
  have hnew : plcS 0 (rr.reverse ++ mv :: (up p.reverse ++ R)) = plcS (p.length + (R.length + 1)) rr.reverse ++ (m + R.length + 4) :: (plcS (R.length + 1) p.reverse ++ plcS 0 R) := by
    have hu : (up p.reverse).length = p.length := by unfold up; rw [List.length_map, List.length_reverse]
    rw [plcS_app, plcS, plcS_app, plcS_up, List.length_cons, List.length_append, hu, show mv + (p.length + R.length) + 0 = m + R.length + 4 by omega, show p.length + R.length + 1 + 0 = p.length + (R.length + 1) by omega]
  have hsum : numP (plcS 0 (rr.reverse ++ mv :: (up p.reverse ++ R))) + 2 ^ (m + R.length) = numP (plcS 0 (A ++ m :: R)) + 2 ^ (m + R.length + 4) := by
    rw [hold, hnew, numP_app, numP_cons, numP_app, numP_app, numP_app, numP_cons]
    omega
  by_cases hst : stuckF (rr, mv) = true
  · left
    rw [if_pos hst]
    refine ⟨?_, rfl⟩
    cases rr with
    | nil => nomatch hst
    | cons a ra =>
      have ha : a + 1 = mv := of_decide_eq_true hst
      rw [hold, List.reverse_cons, plcS_app, plcS]
      refine List.mem_append_left _ (List.mem_append_right _ (List.mem_cons.mpr (.inl ?_)))
      rw [List.length_nil]
      omega
  · right
    rw [if_neg hst]
    have hAr : ∀ y ∈ rr, mv ≤ y := by
      intro y hy
      cases rr with
      | nil => nomatch hy
      | cons a ra =>
        have h1 := hstop a ra rfl
        have h2 : a + 1 ≠ mv := fun e => hst (decide_eq_true e)
        have h3 : a ≤ y := by
          have := dA
          rw [hA, List.pairwise_append, List.pairwise_reverse, List.pairwise_cons] at this
          rcases List.mem_cons.mp hy with h | h
          · omega
          · exact this.1.1 y h
        omega
    have hP : ∀ x ∈ p.reverse, x + 1 ≤ mv := fun x hx => hpass x (List.mem_reverse.mp hx)
    have hmR : ∀ b ∈ R, b ≤ mv := by
      intro b hb
      cases p with
      | nil =>
        have := dm b hb
        rw [List.length_nil] at e2
        omega
      | cons x p =>
        have h1 := hP x (List.mem_reverse.mpr (.head _))
        have h2 := dx x (by rw [hA]; exact List.mem_append_right _ (List.mem_reverse.mpr (.head _))) b (.tail _ hb)
        omega
    have hD : Dec (rr.reverse ++ mv :: (up p.reverse ++ R)) := by
      have dA' := dA
      rw [hA, List.pairwise_append] at dA'
      have hmv : ∀ b ∈ up p.reverse ++ R, b ≤ mv := by
        intro b hb
        rcases List.mem_append.mp hb with h | h
        · obtain ⟨x, hx, rfl⟩ := List.mem_map.mp h
          exact hP x hx
        · exact hmR b h
      unfold Dec
      rw [List.pairwise_append, List.pairwise_cons, List.pairwise_append]
      refine ⟨dA'.1, ⟨hmv, ?_, dR, ?_⟩, ?_⟩
      · unfold up
        rw [List.pairwise_map]
        exact List.Pairwise.imp (fun {a b} hab => by omega) dA'.2.1
      · intro a ha b hb
        obtain ⟨x, hx, rfl⟩ := List.mem_map.mp ha
        have := dx x (by rw [hA]; exact List.mem_append_right _ hx) b (.tail _ hb)
        omega
      · intro a ha b hb
        have h1 := hAr a (List.mem_reverse.mp ha)
        rcases List.mem_cons.mp hb with h | h
        · omega
        · have := hmv b h; omega
    obtain ⟨n1, n2⟩ := nodup_of (plcS_dec 0 _ hD) hnew
    refine ⟨?_, hD, hsum, ?_⟩
    · rw [hold]
      intro hm
      rcases List.mem_append.mp hm with h | h
      · exact n1 h
      · rcases List.mem_append.mp h with h | h
        · exact n2 (List.mem_append_left _ h)
        · rcases List.mem_cons.mp h with h | h
          · omega
          · exact n2 (List.mem_append_right _ h)
    · intro q hq
      rw [hnew] at hq
      rw [hold]
      rcases List.mem_append.mp hq with h | h
      · exact .inr (List.mem_append_left _ h)
      · rcases List.mem_cons.mp h with h | h
        · exact .inl h
        · rcases List.mem_append.mp h with h | h
          · exact .inr (List.mem_append_right _ (List.mem_append_left _ h))
          · exact .inr (List.mem_append_right _ (List.mem_append_right _ (.tail _ h)))
-- hooks
theorem lg_all (m : Nat) : ∀ S : List Nat, (∀ x ∈ S, x < m) → lg S m = 0 := by
  intro S h
  unfold lg
  rw [List.filter_eq_nil_iff.mpr (fun x hx => by have := h x hx; simp; omega)]; rfl
theorem lg_cons {m d : Nat} (S : List Nat) (h : d ≤ m) : lg (m :: S) d = lg S d + 1 := by
  unfold lg
  rw [List.filter_cons, if_pos (decide_eq_true h), List.length_cons]
noncomputable def sumN (f : Nat → Nat) (l : List Nat) : Nat := (l.map f).sum
theorem sumN_congr {f g : Nat → Nat} {l : List Nat} (h : ∀ x ∈ l, f x = g x) : sumN f l = sumN g l := by
  unfold sumN
  rw [List.map_congr_left h]
theorem sumN_app (f : Nat → Nat) (a b : List Nat) : sumN f (a ++ b) = sumN f a + sumN f b := by
  unfold sumN
  rw [List.map_append, List.sum_append]
theorem sumN_cons (f : Nat → Nat) (a : Nat) (b : List Nat) : sumN f (a :: b) = f a + sumN f b := by
  unfold sumN
  rw [List.map_cons, List.sum_cons]
theorem sumN_one (f : Nat → Nat) (a : Nat) : sumN f [a] = f a := sumN_cons f a []
theorem sumN_shift (f : Nat → Nat) (n : Nat) : sumN f (List.range (n + 1)) = f 0 + sumN (fun t => f (t + 1)) (List.range n) := by
  rw [List.range_succ_eq_map, sumN_cons]
  unfold sumN
  rw [List.map_map]; rfl
theorem sub_s (m j x : Nat) (h : j ≤ m) : m + 1 - j + x = m - j + x + 1 := by rw [Nat.succ_sub h, Nat.succ_add]
theorem sub_t (m l q : Nat) (h : q < m + l + 0) : m + 1 + l - q = m + l - q + 1 := by rw [Nat.add_right_comm, Nat.succ_sub (Nat.le_of_lt h)]; rfl
theorem sub_u (r l q : Nat) (h : q < r + l + 0) : r + (l + 1) - q = r + l - q + 1 := Nat.succ_sub (Nat.le_of_lt h)
theorem add_mid (x y z : Nat) : x + y + z = y + (x + z) := by rw [Nat.add_comm x y, Nat.add_assoc]
theorem hook_sum : ∀ (n m : Nat) (S : List Nat) (f : Nat → Nat), m + S.length = n → Dec S → (∀ x ∈ S, x ≤ m) →
    sumN (fun j => f (m - j + lg S (j + 1))) (List.range m) + sumN (fun q => f (m + S.length - q)) (plcS 0 S) = sumN (fun t => f (t + 1)) (List.range n)
  | 0, m, S, f, e, _, _ => by
    have h1 : m = 0 := by omega
    have h2 : S = [] := List.length_eq_zero_iff.mp (by omega)
    subst h1 h2
    rfl
  | n + 1, m, S, f, e, hd, hm => by
    rw [sumN_shift (fun t => f (t + 1)) n]
    by_cases hall : ∀ x ∈ S, x < m
    · obtain ⟨m', rfl⟩ : ∃ m', m = m' + 1 := by
        cases m with
        | zero =>
          cases S with
          | nil => rw [List.length_nil] at e; omega
          | cons x S => have := hall x (.head _); omega
        | succ m' => exact ⟨m', rfl⟩
      have ih := hook_sum n m' S (fun t => f (t + 1)) (by omega) hd (fun x hx => by have := hall x hx; omega)
      rw [← ih, List.range_succ, sumN_app, sumN_one, lg_all (m' + 1) S hall]
      have c1 : sumN (fun j => f (m' + 1 - j + lg S (j + 1))) (List.range m') = sumN (fun j => f (m' - j + lg S (j + 1) + 1)) (List.range m') := sumN_congr fun j hj => by
        have := List.mem_range.mp hj
        rw [sub_s _ _ _ (Nat.le_of_lt this)]
      have c2 : sumN (fun q => f (m' + 1 + S.length - q)) (plcS 0 S) = sumN (fun q => f (m' + S.length - q + 1)) (plcS 0 S) := sumN_congr fun q hq => by
        have := plcS_lt 0 m' S (fun x hx => by have := hall x hx; omega) q hq
        rw [sub_t _ _ _ this]
      rw [c1, c2, show m' + 1 - m' + 0 = 0 + 1 from Nat.add_sub_cancel_left m' 1]
      exact add_mid _ _ _
    · cases S with
      | nil => exact absurd (fun x hx => nomatch hx) hall
      | cons r S =>
        obtain ⟨h1, h2⟩ := List.pairwise_cons.mp hd
        have hr : r = m := by
          by_cases e : r = m
          · exact e
          · refine absurd (fun x hx => ?_) hall
            have hrm := hm r (.head _)
            rcases List.mem_cons.mp hx with h | h
            · omega
            · have := h1 x h; omega
        subst hr
        rw [List.length_cons] at e
        have ih := hook_sum n r S (fun t => f (t + 1)) (by omega) h2 h1
        rw [← ih, plcS, sumN_cons]
        have c1 : sumN (fun j => f (r - j + lg (r :: S) (j + 1))) (List.range r) = sumN (fun j => f (r - j + lg S (j + 1) + 1)) (List.range r) := sumN_congr fun j hj => by
          have := List.mem_range.mp hj
          rw [lg_cons S (by omega)]; rfl
        have c2 : sumN (fun q => f (r + (r :: S).length - q)) (plcS 0 S) = sumN (fun q => f (r + S.length - q + 1)) (plcS 0 S) := sumN_congr fun q hq => by
          have := plcS_lt 0 r S h1 q hq
          rw [List.length_cons, sub_u _ _ _ this]
        rw [c1, c2, List.length_cons, show r + (S.length + 1) - (r + S.length + 0) = 0 + 1 from Nat.add_sub_cancel_left (r + S.length) 1]
        exact Nat.add_left_comm _ _ _
noncomputable def f4 (t : Nat) : Nat := if t % 4 = 0 then 1 else 0
theorem f4_sum : ∀ n : Nat, sumN (fun t => f4 (t + 1)) (List.range n) = n / 4
  | 0 => rfl
  | n + 1 => by
    rw [List.range_succ, sumN_app, sumN_one, f4_sum n]
    unfold f4
    split <;> omega
theorem f4_count (p : Nat) : ∀ qs : List Nat, (∀ q ∈ qs, q ≤ p) → sumN (fun q => f4 (p - q)) qs = (qs.map (· % 4)).count (p % 4)
  | [], _ => rfl
  | q :: qs, h => by
    have hq := h q (.head _)
    rw [sumN_cons, f4_count p qs (fun x hx => h x (.tail _ hx)), List.map_cons, List.count_cons]
    unfold f4
    by_cases e : q % 4 = p % 4
    · rw [if_pos (show (p - q) % 4 = 0 by omega), if_pos (by rw [e]; exact beq_self_eq_true _)]; omega
    · rw [if_neg (show ¬ (p - q) % 4 = 0 by omega), if_neg (by rw [beq_iff_eq]; exact e)]; omega
theorem row_hooks (m : Nat) (S : List Nat) (h1 : ∀ x ∈ S, x ≤ m) (h2 : Dec S) : hkS m S (List.range m) + ((plcS 0 S).map (· % 4)).count ((m + S.length) % 4) = (m + S.length) / 4 := by
  have h := hook_sum (m + S.length) m S f4 rfl h2 h1
  rw [f4_sum, f4_count (m + S.length) _ (fun q hq => by have := plcS_lt 0 m S h1 q hq; omega)] at h
  exact h
/-- what the loop over the places sums -/
noncomputable def fallsF (seen : List Nat) : List Nat → Int
  | [] => 0
  | p :: ps => ((p / 4 : Nat) : Int) - (seen.count (p % 4) : Nat) + fallsF (seen ++ [p % 4]) ps
theorem falls_more (r : Nat) : ∀ (ps seen seen' : List Nat), (∀ x, seen'.count x = seen.count x + (if r = x then 1 else 0)) → fallsF seen' ps = fallsF seen ps - ((ps.map (· % 4)).count r : Nat)
  | [], seen, seen', _ => rfl
  | p :: ps, seen, seen', h => by
    have ih := falls_more r ps (seen ++ [p % 4]) (seen' ++ [p % 4]) (fun x => by rw [List.count_append, List.count_append, h x]; omega)
    have hp := h (p % 4)
    rw [fallsF, fallsF, ih, List.map_cons, List.count_cons, hp]
    by_cases e : r = p % 4
    · subst e
      rw [if_pos rfl, if_pos (beq_self_eq_true _)]; omega
    · rw [if_neg e, if_neg (by rw [beq_iff_eq]; exact fun q => e q.symm)]; omega
theorem falls_hooks : ∀ M : List Nat, Dec M → fallsF [] (plcS 0 M) = (hooksF M : Nat)
  | [], _ => rfl
  | m :: S, h => by
    obtain ⟨h1, h2⟩ := List.pairwise_cons.mp h
    have ih := falls_hooks S h2
    have hr := row_hooks m S h1 h2
    rw [plcS, fallsF, falls_more ((m + S.length + 0) % 4) (plcS 0 S) [] ([] ++ [(m + S.length + 0) % 4]) (fun x => by
      rw [List.nil_append, List.count_cons, List.count_nil]
      by_cases e : (m + S.length + 0) % 4 = x
      · rw [if_pos (by rw [e]; exact beq_self_eq_true _), if_pos e]
      · rw [if_neg (by rw [beq_iff_eq]; exact e), if_neg e]), ih, hooksF, List.count_nil, Nat.add_zero]
    omega
-- the word's letters from the number
noncomputable def digs (f N : Nat) : List Nat := ((descL f).filter fun k => decide (16 ^ k ≤ N)).map fun k => N / 16 ^ k % 16
theorem digs_ok : ∀ (f N : Nat), digs f N = hexD f N
  | 0, N => rfl
  | f + 1, N => by
    rw [hexD]
    by_cases h : N = 0
    · subst h
      rw [if_pos rfl]
      unfold digs
      rw [List.filter_eq_nil_iff.mpr (fun k _ => by rw [decide_eq_true_eq]; have := Nat.pow_pos (n := k) (show 0 < 16 by decide); omega)]
      rfl
    · rw [if_neg h, ← digs_ok f (N / 16)]
      unfold digs
      rw [desc_succ, List.filter_append, List.map_append, List.filter_map, List.map_map]
      have e1 : (descL f).filter ((fun k => decide (16 ^ k ≤ N)) ∘ fun x => x + 1) = (descL f).filter fun k => decide (16 ^ k ≤ N / 16) := by
        refine List.filter_congr fun k _ => ?_
        show decide (16 ^ (k + 1) ≤ N) = _
        rw [Nat.pow_succ]
        exact decide_eq_decide.mpr (Nat.le_div_iff_mul_le (by decide)).symm
      have e2 : ∀ l : List Nat, l.map ((fun k => N / 16 ^ k % 16) ∘ fun x => x + 1) = l.map fun k => N / 16 / 16 ^ k % 16 := fun l => List.map_congr_left fun k _ => by
        show N / 16 ^ (k + 1) % 16 = _
        rw [Nat.pow_succ, Nat.mul_comm, Nat.div_div_eq_div_mul]
      rw [e1, e2]
      congr 1
      rw [List.filter_cons, if_pos (decide_eq_true (by rw [Nat.pow_zero]; omega)), List.filter_nil, List.map_cons, Nat.pow_zero, Nat.div_one]; rfl
end Mine
end
section
open PySem
set_option maxRecDepth 100000
set_option Elab.async false
set_option linter.unusedSimpArgs false
set_option linter.unusedVariables false
set_option maxHeartbeats 4000000
namespace Mine
-- law
noncomputable def nL : Names := fnames p1 20
noncomputable def bL : List Stmt := fbody p1 20
theorem nL_cells : stOk nL (Str.ofString "cells") = true := by decide +kernel
theorem nL_number : stOk nL (Str.ofString "number") = true := by decide +kernel
theorem nL_rows : stOk nL (Str.ofString "rows") = true := by decide +kernel
theorem nL_cell : stOk nL (Str.ofString "cell") = true := by decide +kernel
theorem nL_ones : stOk nL (Str.ofString "ones") = true := by decide +kernel
theorem nL_chosen : stOk nL (Str.ofString "chosen") = true := by decide +kernel
theorem nL_number' : nL.lookup (Str.ofString "number") = some .cell := by decide +kernel
theorem nL_rows' : nL.lookup (Str.ofString "rows") = some .cell := by decide +kernel
theorem nL_fc : nL.lookup (Str.ofString "_law_cells") = some .globalImplicit := by decide +kernel
theorem nL_fi : nL.lookup (Str.ofString "Int2AP") = some .globalImplicit := by decide +kernel
theorem nL_fr : nL.lookup (Str.ofString "_law_rows") = some .globalImplicit := by decide +kernel
theorem nL_fk : nL.lookup (Str.ofString "_law_climbed") = some .globalImplicit := by decide +kernel
theorem nL_len : nL.lookup (Str.ofString "len") = some .globalImplicit := by decide +kernel
theorem nL_rng : nL.lookup (Str.ofString "range") = some .globalImplicit := by decide +kernel
theorem b_fc : builtinNames.contains (Str.ofString "_law_cells") = false := by decide +kernel
theorem b_fi : builtinNames.contains (Str.ofString "Int2AP") = false := by decide +kernel
theorem b_fr : builtinNames.contains (Str.ofString "_law_rows") = false := by decide +kernel
theorem b_fk : builtinNames.contains (Str.ofString "_law_climbed") = false := by decide +kernel
noncomputable def intsD (l : List Nat) : List D := l.map fun (n : Nat) => D.int (n : Int)
theorem intsD_len (l : List Nat) : (intsD l).length = l.length := by unfold intsD; rw [List.length_map]
theorem intsD_imm (l : List Nat) : (intsD l).all D.imm = true := by
  rw [List.all_eq_true]
  intro d hd
  obtain ⟨x, _, rfl⟩ := List.mem_map.mp hd
  rfl
theorem intsD_at {l : List Nat} {k n : Nat} (h : l[k]? = some n) (hl : l.length ≤ 100) : index (.list (intsD l)) (.int (k : Int)) = some (.int (n : Int)) := by
  refine indexL ?_ (by rw [intsD_len]; exact le_cap (by omega))
  unfold intsD
  rw [List.getElem?_map, h]; rfl
theorem ints_D (l : List Nat) : ints? (intsD l) = some (l.map fun (n : Nat) => (n : Int)) := by
  have := ints_ok (xs := l.map fun (n : Nat) => (n : Int))
  rw [List.map_map] at this
  exact this
theorem eq_ints (a b : List Nat) : eqD (.list (intsD a)) (.list (intsD b)) = some (decide (a = b)) := by
  show eqL (intsD a) (intsD b) = _
  unfold eqL
  rw [ints_D, ints_D]
  show some (decide ((a.map fun (n : Nat) => (n : Int)) = b.map fun (n : Nat) => (n : Int))) = _
  congr 1
  refine decide_eq_decide.mpr ⟨fun h => ?_, fun h => by rw [h]⟩
  exact (List.map_inj_right fun x y hxy => Int.ofNat_inj.mp hxy).mp h
/-- the first three statements -/
theorem wL_0 (Φ : Fns) (is cs R : List D) (C0 C4 N e s : Int) (w : List UInt8) (hC : Φ (Str.ofString "_law_cells") [.list is] = some (.list cs)) (h0 : index (.list cs) (.int 0) = some (.int C0)) (h4 : index (.list cs) (.int 4) = some (.int C4))
    (m1 : binop .Mod (.int C0) (.int 4096) = some (.int N)) (m2 : binop .Mod (.int C4) (.int 2) = some (.int e)) (hs : index (.list [.int N, .int (-N)]) (.int e) = some (.int s))
    (hI : Φ (Str.ofString "Int2AP") [.int s] = some (.bytes w)) (hR : Φ (Str.ofString "_law_rows") [.bytes w, .int C4] = some (.list R)) :
    exs Φ ({} : Pol) nL (bL.take 3) [vL "script" is] = some (.next, [vL "script" is, vL "cells" cs, vI "number" N, vL "rows" R]) := by
  conv => lhs; arg 4; whnf
  simp only [exs_nil, exs_cons, andThen_next, andThen_brk, andThen_ret, ifS_true, ifS_false, ex_if, ex_pass, ex_break, retS_some, ex_ret, asgS_some, ex_asg, augS_some, ex_aug, appS_some, ex_app, forS_some, ex_for, ex_while, ev_const, ev_name, bin2_some, ev_bin, negO_some, ev_neg, ifE_true, ifE_false, ev_if, ev_list, ev_tuple, cons2_some, evs_nil, evs_cons, cmp2_some, evT_cmp, ev_cmp, truthO_some, evT_name, evT_bin, evT_and, evT_or, evT_not, andS_true, andS_false, orS_true, orS_false, evA_nil, evR_nil, evA_cons, evR_cons, ev_call, evT_call, slice4_some, ev_slice, evO_none, evO_some, idxO_some, ev_idx_name, ev_idx_const, ev_idx_bin, ev_idx_un, ev_comp, evI_name, evI_list, evI_slice, evI_range, rangeO_some, getV_val, getV_own, lookup_s, put_nil, put_s, freeze_miss, freeze0, own0, asg0, aug0, for0, eq_self, not_false_eq_true, not_true_eq_false, vI, vS, vB, vL, vO, bo_addI, bo_subI, bo_andI, cm_eq, cm_ne, cm_lt, cm_le, cm_gt, cm_ge, eq_int, eq_str, eq_bytes, tr_int, tr_bool, cd_int, cd_str, cd_bytes, cd_none, cd_bool, nocontains, String.reduceEq, if_true, if_false, Bool.false_eq_true, Option.map_some, ex_tup_call, ex_tup_disp, namesOf_nil, namesOf_name, putsO_some, puts_nil, puts_cons, tupV_some, tupD_some, evCO_some, evC_nil, evC_step, consC_some, List.map_cons, List.map_nil, methN_own, ev_meth_name, ev_meth_const, ev_meth_sub, ev_meth_call, callM_some, beq_self_eq_true, Bool.and_self, Bool.and_true, Nat.reduceLT, listO_s, tupO_s, List.length_cons, List.length_nil, Nat.reduceAdd, Nat.reduceLeDiff, methN_val, List.all_nil, List.all_cons, decide_true, decide_false, List.take_succ_cons, List.take_zero, List.nil_append, List.cons_append, nL_cells, nL_number, nL_rows, nL_fc, callF_user _ b_fc, nL_fi, callF_user _ b_fi, nL_fr, callF_user _ b_fr, hC, h0, h4, m1, m2, hs, hI, hR]
/-- one deed -/
noncomputable abbrev bD : List Stmt := inner? bL 3
noncomputable def bitD (N : Nat) : D → Bool
  | .int i => bitO N i.toNat
  | _ => false
theorem range24 : range? [.int 23, .int (-1), .int (-1)] = some (intsD (descL 24)) := by
  have : range? [.int 23, .int (-1), .int (-1)] = some (rangeL 23 (-1) 24) := rfl
  rw [this]; rfl
theorem bits_filter (N : Nat) : ∀ l : List Nat, (intsD l).filter (bitD N) = intsD (l.filter (bitO N))
  | [] => rfl
  | x :: l => by
    have ih := bits_filter N l
    have e : intsD (x :: l) = .int (x : Int) :: intsD l := rfl
    rw [e, List.filter_cons, List.filter_cons, ih, show bitD N (.int (x : Int)) = bitO N x from rfl]
    split <;> rfl
theorem shr_nat (N p : Nat) : binop .RShift (.int (N : Int)) (.int (p : Int)) = some (.int ((N / 2 ^ p : Nat) : Int)) := by
  rw [bo_shrI (by omega), Int.toNat_natCast, Int.fdiv_eq_ediv_of_nonneg _ (Int.pow_nonneg (by decide))]
  have e : (2 : Int) ^ p = ((2 ^ p : Nat) : Int) := by rw [Int.natCast_pow]; rfl
  rw [e, Int.natCast_ediv]
theorem mod_nat (N k : Nat) (hk : (k : Int) ≠ 0) : binop .Mod (.int (N : Int)) (.int (k : Int)) = some (.int ((N % k : Nat) : Int)) := by
  rw [bo_modI hk, Int.fmod_eq_emod_of_nonneg _ (by omega)]; rfl
theorem wL_ones (Φ : Fns) (cs R : List D) (N : Nat) (c : Int) (t : Rho) : ev Φ (tst? bD 0) nL ([vL "cells" cs, vI "number" (N : Int), vL "rows" R, vI "cell" c] ++ t) = some (.list (intsD ((descL 24).filter (bitO N)))) := by
  conv => lhs; arg 2; whnf
  simp only [exs_nil, exs_cons, andThen_next, andThen_brk, andThen_ret, ifS_true, ifS_false, ex_if, ex_pass, ex_break, retS_some, ex_ret, asgS_some, ex_asg, augS_some, ex_aug, appS_some, ex_app, forS_some, ex_for, ex_while, ev_const, ev_name, bin2_some, ev_bin, negO_some, ev_neg, ifE_true, ifE_false, ev_if, ev_list, ev_tuple, cons2_some, evs_nil, evs_cons, cmp2_some, evT_cmp, ev_cmp, truthO_some, evT_name, evT_bin, evT_and, evT_or, evT_not, andS_true, andS_false, orS_true, orS_false, evA_nil, evR_nil, evA_cons, evR_cons, ev_call, evT_call, slice4_some, ev_slice, evO_none, evO_some, idxO_some, ev_idx_name, ev_idx_const, ev_idx_bin, ev_idx_un, ev_comp, evI_name, evI_list, evI_slice, evI_range, rangeO_some, getV_val, getV_own, lookup_s, put_nil, put_s, freeze_miss, freeze0, own0, asg0, aug0, for0, eq_self, not_false_eq_true, not_true_eq_false, vI, vS, vB, vL, vO, bo_addI, bo_subI, bo_andI, cm_eq, cm_ne, cm_lt, cm_le, cm_gt, cm_ge, eq_int, eq_str, eq_bytes, tr_int, tr_bool, cd_int, cd_str, cd_bytes, cd_none, cd_bool, nocontains, String.reduceEq, if_true, if_false, Bool.false_eq_true, Option.map_some, ex_tup_call, ex_tup_disp, namesOf_nil, namesOf_name, putsO_some, puts_nil, puts_cons, tupV_some, tupD_some, evCO_some, evC_nil, evC_step, consC_some, List.map_cons, List.map_nil, methN_own, ev_meth_name, ev_meth_const, ev_meth_sub, ev_meth_call, callM_some, beq_self_eq_true, Bool.and_self, Bool.and_true, Nat.reduceLT, listO_s, tupO_s, List.length_cons, List.length_nil, Nat.reduceAdd, Nat.reduceLeDiff, methN_val, List.all_nil, List.all_cons, decide_true, decide_false, List.take_succ_cons, List.take_zero, List.nil_append, List.cons_append, nL_rng, range24]
  rw [compS_some (by rw [intsD_len]; exact le_cap (by decide)) (intsD_imm _)]
  · simp only [inner_eq, evA_nil, fm_cons, List.filterMap_nil, lookup_k, nk_ff, nk_lf, nk_gf, nk_cc, String.reduceEq, if_true, if_false, Bool.and_true, Bool.false_and, Bool.and_false, Bool.false_eq_true, innerV_val, vL, vI, vS, vB, nL_number']
    rw [compL_filter (p := bitD N) (f := id), bits_filter, List.map_id]
    · simp only [exs_nil, exs_cons, andThen_next, andThen_brk, andThen_ret, ifS_true, ifS_false, ex_if, ex_pass, ex_break, retS_some, ex_ret, asgS_some, ex_asg, augS_some, ex_aug, appS_some, ex_app, forS_some, ex_for, ex_while, ev_const, ev_name, bin2_some, ev_bin, negO_some, ev_neg, ifE_true, ifE_false, ev_if, ev_list, ev_tuple, cons2_some, evs_nil, evs_cons, cmp2_some, evT_cmp, ev_cmp, truthO_some, evT_name, evT_bin, evT_and, evT_or, evT_not, andS_true, andS_false, orS_true, orS_false, evA_nil, evR_nil, evA_cons, evR_cons, ev_call, evT_call, slice4_some, ev_slice, evO_none, evO_some, idxO_some, ev_idx_name, ev_idx_const, ev_idx_bin, ev_idx_un, ev_comp, evI_name, evI_list, evI_slice, evI_range, rangeO_some, getV_val, getV_own, lookup_s, put_nil, put_s, freeze_miss, freeze0, own0, asg0, aug0, for0, eq_self, not_false_eq_true, not_true_eq_false, vI, vS, vB, vL, vO, bo_addI, bo_subI, bo_andI, cm_eq, cm_ne, cm_lt, cm_le, cm_gt, cm_ge, eq_int, eq_str, eq_bytes, tr_int, tr_bool, cd_int, cd_str, cd_bytes, cd_none, cd_bool, nocontains, String.reduceEq, if_true, if_false, Bool.false_eq_true, Option.map_some, ex_tup_call, ex_tup_disp, namesOf_nil, namesOf_name, putsO_some, puts_nil, puts_cons, tupV_some, tupD_some, evCO_some, evC_nil, evC_step, consC_some, List.map_cons, List.map_nil, methN_own, ev_meth_name, ev_meth_const, ev_meth_sub, ev_meth_call, callM_some, beq_self_eq_true, Bool.and_self, Bool.and_true, Nat.reduceLT, listO_s, tupO_s, List.length_cons, List.length_nil, Nat.reduceAdd, Nat.reduceLeDiff, methN_val, List.all_nil, List.all_cons, decide_true, decide_false, List.take_succ_cons, List.take_zero, List.nil_append, List.cons_append]
    · intro d hd
      obtain ⟨x, _, rfl⟩ := List.mem_map.mp hd
      have h2 := mod_nat (N / 2 ^ x) 2 (by decide)
      refine ⟨?_, fun _ => ⟨?_, rfl⟩⟩
      · simp only [exs_nil, exs_cons, andThen_next, andThen_brk, andThen_ret, ifS_true, ifS_false, ex_if, ex_pass, ex_break, retS_some, ex_ret, asgS_some, ex_asg, augS_some, ex_aug, appS_some, ex_app, forS_some, ex_for, ex_while, ev_const, ev_name, bin2_some, ev_bin, negO_some, ev_neg, ifE_true, ifE_false, ev_if, ev_list, ev_tuple, cons2_some, evs_nil, evs_cons, cmp2_some, evT_cmp, ev_cmp, truthO_some, evT_name, evT_bin, evT_and, evT_or, evT_not, andS_true, andS_false, orS_true, orS_false, evA_nil, evR_nil, evA_cons, evR_cons, ev_call, evT_call, slice4_some, ev_slice, evO_none, evO_some, idxO_some, ev_idx_name, ev_idx_const, ev_idx_bin, ev_idx_un, ev_comp, evI_name, evI_list, evI_slice, evI_range, rangeO_some, getV_val, getV_own, lookup_s, put_nil, put_s, freeze_miss, freeze0, own0, asg0, aug0, for0, eq_self, not_false_eq_true, not_true_eq_false, vI, vS, vB, vL, vO, bo_addI, bo_subI, bo_andI, cm_eq, cm_ne, cm_lt, cm_le, cm_gt, cm_ge, eq_int, eq_str, eq_bytes, tr_int, tr_bool, cd_int, cd_str, cd_bytes, cd_none, cd_bool, nocontains, String.reduceEq, if_true, if_false, Bool.false_eq_true, Option.map_some, ex_tup_call, ex_tup_disp, namesOf_nil, namesOf_name, putsO_some, puts_nil, puts_cons, tupV_some, tupD_some, evCO_some, evC_nil, evC_step, consC_some, List.map_cons, List.map_nil, methN_own, ev_meth_name, ev_meth_const, ev_meth_sub, ev_meth_call, callM_some, beq_self_eq_true, Bool.and_self, Bool.and_true, Nat.reduceLT, listO_s, tupO_s, List.length_cons, List.length_nil, Nat.reduceAdd, Nat.reduceLeDiff, methN_val, List.all_nil, List.all_cons, decide_true, decide_false, List.take_succ_cons, List.take_zero, List.nil_append, List.cons_append, lookup_k, shr_nat]
        rw [show (2 : Int) = ((2 : Nat) : Int) from rfl, h2]
        simp only [exs_nil, exs_cons, andThen_next, andThen_brk, andThen_ret, ifS_true, ifS_false, ex_if, ex_pass, ex_break, retS_some, ex_ret, asgS_some, ex_asg, augS_some, ex_aug, appS_some, ex_app, forS_some, ex_for, ex_while, ev_const, ev_name, bin2_some, ev_bin, negO_some, ev_neg, ifE_true, ifE_false, ev_if, ev_list, ev_tuple, cons2_some, evs_nil, evs_cons, cmp2_some, evT_cmp, ev_cmp, truthO_some, evT_name, evT_bin, evT_and, evT_or, evT_not, andS_true, andS_false, orS_true, orS_false, evA_nil, evR_nil, evA_cons, evR_cons, ev_call, evT_call, slice4_some, ev_slice, evO_none, evO_some, idxO_some, ev_idx_name, ev_idx_const, ev_idx_bin, ev_idx_un, ev_comp, evI_name, evI_list, evI_slice, evI_range, rangeO_some, getV_val, getV_own, lookup_s, put_nil, put_s, freeze_miss, freeze0, own0, asg0, aug0, for0, eq_self, not_false_eq_true, not_true_eq_false, vI, vS, vB, vL, vO, bo_addI, bo_subI, bo_andI, cm_eq, cm_ne, cm_lt, cm_le, cm_gt, cm_ge, eq_int, eq_str, eq_bytes, tr_int, tr_bool, cd_int, cd_str, cd_bytes, cd_none, cd_bool, nocontains, String.reduceEq, if_true, if_false, Bool.false_eq_true, Option.map_some, ex_tup_call, ex_tup_disp, namesOf_nil, namesOf_name, putsO_some, puts_nil, puts_cons, tupV_some, tupD_some, evCO_some, evC_nil, evC_step, consC_some, List.map_cons, List.map_nil, methN_own, ev_meth_name, ev_meth_const, ev_meth_sub, ev_meth_call, callM_some, beq_self_eq_true, Bool.and_self, Bool.and_true, Nat.reduceLT, listO_s, tupO_s, List.length_cons, List.length_nil, Nat.reduceAdd, Nat.reduceLeDiff, methN_val, List.all_nil, List.all_cons, decide_true, decide_false, List.take_succ_cons, List.take_zero, List.nil_append, List.cons_append]
        show andS _ _ _ _ (some (decide (((N / 2 ^ x % 2 : Nat) : Int) = 1))) = some (decide (N / 2 ^ x % 2 = 1))
        rw [show decide (((N / 2 ^ x % 2 : Nat) : Int) = 1) = decide (N / 2 ^ x % 2 = 1) from decide_eq_decide.mpr (by omega)]
        cases decide (N / 2 ^ x % 2 = 1) <;> rfl
      · simp only [exs_nil, exs_cons, andThen_next, andThen_brk, andThen_ret, ifS_true, ifS_false, ex_if, ex_pass, ex_break, retS_some, ex_ret, asgS_some, ex_asg, augS_some, ex_aug, appS_some, ex_app, forS_some, ex_for, ex_while, ev_const, ev_name, bin2_some, ev_bin, negO_some, ev_neg, ifE_true, ifE_false, ev_if, ev_list, ev_tuple, cons2_some, evs_nil, evs_cons, cmp2_some, evT_cmp, ev_cmp, truthO_some, evT_name, evT_bin, evT_and, evT_or, evT_not, andS_true, andS_false, orS_true, orS_false, evA_nil, evR_nil, evA_cons, evR_cons, ev_call, evT_call, slice4_some, ev_slice, evO_none, evO_some, idxO_some, ev_idx_name, ev_idx_const, ev_idx_bin, ev_idx_un, ev_comp, evI_name, evI_list, evI_slice, evI_range, rangeO_some, getV_val, getV_own, lookup_s, put_nil, put_s, freeze_miss, freeze0, own0, asg0, aug0, for0, eq_self, not_false_eq_true, not_true_eq_false, vI, vS, vB, vL, vO, bo_addI, bo_subI, bo_andI, cm_eq, cm_ne, cm_lt, cm_le, cm_gt, cm_ge, eq_int, eq_str, eq_bytes, tr_int, tr_bool, cd_int, cd_str, cd_bytes, cd_none, cd_bool, nocontains, String.reduceEq, if_true, if_false, Bool.false_eq_true, Option.map_some, ex_tup_call, ex_tup_disp, namesOf_nil, namesOf_name, putsO_some, puts_nil, puts_cons, tupV_some, tupD_some, evCO_some, evC_nil, evC_step, consC_some, List.map_cons, List.map_nil, methN_own, ev_meth_name, ev_meth_const, ev_meth_sub, ev_meth_call, callM_some, beq_self_eq_true, Bool.and_self, Bool.and_true, Nat.reduceLT, listO_s, tupO_s, List.length_cons, List.length_nil, Nat.reduceAdd, Nat.reduceLeDiff, methN_val, List.all_nil, List.all_cons, decide_true, decide_false, List.take_succ_cons, List.take_zero, List.nil_append, List.cons_append, lookup_k]
        rfl
  · decide +kernel
theorem wL_tst (Φ : Fns) (cs R : List D) (N c : Int) (o : List Nat) (t : Rho) : evT Φ (tst? bD 1) nL ([vL "cells" cs, vI "number" N, vL "rows" R, vI "cell" c, vL "ones" (intsD o)] ++ t) = some (!decide (o = [])) := by
  have h := eq_ints o []
  rw [show intsD [] = [] from rfl] at h
  conv => lhs; arg 2; whnf
  simp only [exs_nil, exs_cons, andThen_next, andThen_brk, andThen_ret, ifS_true, ifS_false, ex_if, ex_pass, ex_break, retS_some, ex_ret, asgS_some, ex_asg, augS_some, ex_aug, appS_some, ex_app, forS_some, ex_for, ex_while, ev_const, ev_name, bin2_some, ev_bin, negO_some, ev_neg, ifE_true, ifE_false, ev_if, ev_list, ev_tuple, cons2_some, evs_nil, evs_cons, cmp2_some, evT_cmp, ev_cmp, truthO_some, evT_name, evT_bin, evT_and, evT_or, evT_not, andS_true, andS_false, orS_true, orS_false, evA_nil, evR_nil, evA_cons, evR_cons, ev_call, evT_call, slice4_some, ev_slice, evO_none, evO_some, idxO_some, ev_idx_name, ev_idx_const, ev_idx_bin, ev_idx_un, ev_comp, evI_name, evI_list, evI_slice, evI_range, rangeO_some, getV_val, getV_own, lookup_s, put_nil, put_s, freeze_miss, freeze0, own0, asg0, aug0, for0, eq_self, not_false_eq_true, not_true_eq_false, vI, vS, vB, vL, vO, bo_addI, bo_subI, bo_andI, cm_eq, cm_ne, cm_lt, cm_le, cm_gt, cm_ge, eq_int, eq_str, eq_bytes, tr_int, tr_bool, cd_int, cd_str, cd_bytes, cd_none, cd_bool, nocontains, String.reduceEq, if_true, if_false, Bool.false_eq_true, Option.map_some, ex_tup_call, ex_tup_disp, namesOf_nil, namesOf_name, putsO_some, puts_nil, puts_cons, tupV_some, tupD_some, evCO_some, evC_nil, evC_step, consC_some, List.map_cons, List.map_nil, methN_own, ev_meth_name, ev_meth_const, ev_meth_sub, ev_meth_call, callM_some, beq_self_eq_true, Bool.and_self, Bool.and_true, Nat.reduceLT, listO_s, tupO_s, List.length_cons, List.length_nil, Nat.reduceAdd, Nat.reduceLeDiff, methN_val, List.all_nil, List.all_cons, decide_true, decide_false, List.take_succ_cons, List.take_zero, List.nil_append, List.cons_append, h]
theorem wL_deed (Φ : Fns) (cs R R' os : List D) (N c n ch p sh b inc : Int) (t : Rho) (ht : t = [] ∨ ∃ x, t = [vI "chosen" x]) (hlen : builtin? (Str.ofString "len") [.list os] = some (.int n)) (hm : binop .Mod (.int c) (.int n) = some (.int ch))
    (hΦ : Φ (Str.ofString "_law_climbed") [.list R, .int ch, .int c] = some (.list R')) (hix : index (.list os) (.int ch) = some (.int p)) (hsh : binop .RShift (.int N) (.int (p + 4)) = some (.int sh)) (hm2 : binop .Mod (.int sh) (.int 2) = some (.int b))
    (hl : binop .LShift (.int 15) (.int p) = some (.int inc)) :
    exs Φ ({} : Pol) nL (inner? bD 1) ([vL "cells" cs, vI "number" N, vL "rows" R, vI "cell" c, vL "ones" os] ++ t) = some (.next, [vL "cells" cs, vI "number" (if decide (b = 0) = true then N + inc else N), vL "rows" R', vI "cell" c, vL "ones" os, vI "chosen" ch]) := by
  have hput : ∀ x : D, put t (Str.ofString "chosen") (.val x) = [(Str.ofString "chosen", .val x)] := by
    intro x
    rcases ht with rfl | ⟨y, rfl⟩ <;> simp only [put_s, put_nil, if_true]
  conv => lhs; arg 4; whnf
  simp only [exs_nil, exs_cons, andThen_next, andThen_brk, andThen_ret, ifS_true, ifS_false, ex_if, ex_pass, ex_break, retS_some, ex_ret, asgS_some, ex_asg, augS_some, ex_aug, appS_some, ex_app, forS_some, ex_for, ex_while, ev_const, ev_name, bin2_some, ev_bin, negO_some, ev_neg, ifE_true, ifE_false, ev_if, ev_list, ev_tuple, cons2_some, evs_nil, evs_cons, cmp2_some, evT_cmp, ev_cmp, truthO_some, evT_name, evT_bin, evT_and, evT_or, evT_not, andS_true, andS_false, orS_true, orS_false, evA_nil, evR_nil, evA_cons, evR_cons, ev_call, evT_call, slice4_some, ev_slice, evO_none, evO_some, idxO_some, ev_idx_name, ev_idx_const, ev_idx_bin, ev_idx_un, ev_comp, evI_name, evI_list, evI_slice, evI_range, rangeO_some, getV_val, getV_own, lookup_s, put_nil, put_s, freeze_miss, freeze0, own0, asg0, aug0, for0, eq_self, not_false_eq_true, not_true_eq_false, vI, vS, vB, vL, vO, bo_addI, bo_subI, bo_andI, cm_eq, cm_ne, cm_lt, cm_le, cm_gt, cm_ge, eq_int, eq_str, eq_bytes, tr_int, tr_bool, cd_int, cd_str, cd_bytes, cd_none, cd_bool, nocontains, String.reduceEq, if_true, if_false, Bool.false_eq_true, Option.map_some, ex_tup_call, ex_tup_disp, namesOf_nil, namesOf_name, putsO_some, puts_nil, puts_cons, tupV_some, tupD_some, evCO_some, evC_nil, evC_step, consC_some, List.map_cons, List.map_nil, methN_own, ev_meth_name, ev_meth_const, ev_meth_sub, ev_meth_call, callM_some, beq_self_eq_true, Bool.and_self, Bool.and_true, Nat.reduceLT, listO_s, tupO_s, List.length_cons, List.length_nil, Nat.reduceAdd, Nat.reduceLeDiff, methN_val, List.all_nil, List.all_cons, decide_true, decide_false, List.take_succ_cons, List.take_zero, List.nil_append, List.cons_append, getV_put, hput, nL_chosen, nL_rows, nL_number, nL_len, callF_bi _ b_len, hlen, hm, nL_fk, callF_user _ b_fk, hΦ, hix, hsh, hm2]
  cases decide (b = 0) with
  | true => simp only [exs_nil, exs_cons, andThen_next, andThen_brk, andThen_ret, ifS_true, ifS_false, ex_if, ex_pass, ex_break, retS_some, ex_ret, asgS_some, ex_asg, augS_some, ex_aug, appS_some, ex_app, forS_some, ex_for, ex_while, ev_const, ev_name, bin2_some, ev_bin, negO_some, ev_neg, ifE_true, ifE_false, ev_if, ev_list, ev_tuple, cons2_some, evs_nil, evs_cons, cmp2_some, evT_cmp, ev_cmp, truthO_some, evT_name, evT_bin, evT_and, evT_or, evT_not, andS_true, andS_false, orS_true, orS_false, evA_nil, evR_nil, evA_cons, evR_cons, ev_call, evT_call, slice4_some, ev_slice, evO_none, evO_some, idxO_some, ev_idx_name, ev_idx_const, ev_idx_bin, ev_idx_un, ev_comp, evI_name, evI_list, evI_slice, evI_range, rangeO_some, getV_val, getV_own, lookup_s, put_nil, put_s, freeze_miss, freeze0, own0, asg0, aug0, for0, eq_self, not_false_eq_true, not_true_eq_false, vI, vS, vB, vL, vO, bo_addI, bo_subI, bo_andI, cm_eq, cm_ne, cm_lt, cm_le, cm_gt, cm_ge, eq_int, eq_str, eq_bytes, tr_int, tr_bool, cd_int, cd_str, cd_bytes, cd_none, cd_bool, nocontains, String.reduceEq, if_true, if_false, Bool.false_eq_true, Option.map_some, ex_tup_call, ex_tup_disp, namesOf_nil, namesOf_name, putsO_some, puts_nil, puts_cons, tupV_some, tupD_some, evCO_some, evC_nil, evC_step, consC_some, List.map_cons, List.map_nil, methN_own, ev_meth_name, ev_meth_const, ev_meth_sub, ev_meth_call, callM_some, beq_self_eq_true, Bool.and_self, Bool.and_true, Nat.reduceLT, listO_s, tupO_s, List.length_cons, List.length_nil, Nat.reduceAdd, Nat.reduceLeDiff, methN_val, List.all_nil, List.all_cons, decide_true, decide_false, List.take_succ_cons, List.take_zero, List.nil_append, List.cons_append, nL_number, hix, hl]
  | false => simp only [exs_nil, exs_cons, andThen_next, andThen_brk, andThen_ret, ifS_true, ifS_false, ex_if, ex_pass, ex_break, retS_some, ex_ret, asgS_some, ex_asg, augS_some, ex_aug, appS_some, ex_app, forS_some, ex_for, ex_while, ev_const, ev_name, bin2_some, ev_bin, negO_some, ev_neg, ifE_true, ifE_false, ev_if, ev_list, ev_tuple, cons2_some, evs_nil, evs_cons, cmp2_some, evT_cmp, ev_cmp, truthO_some, evT_name, evT_bin, evT_and, evT_or, evT_not, andS_true, andS_false, orS_true, orS_false, evA_nil, evR_nil, evA_cons, evR_cons, ev_call, evT_call, slice4_some, ev_slice, evO_none, evO_some, idxO_some, ev_idx_name, ev_idx_const, ev_idx_bin, ev_idx_un, ev_comp, evI_name, evI_list, evI_slice, evI_range, rangeO_some, getV_val, getV_own, lookup_s, put_nil, put_s, freeze_miss, freeze0, own0, asg0, aug0, for0, eq_self, not_false_eq_true, not_true_eq_false, vI, vS, vB, vL, vO, bo_addI, bo_subI, bo_andI, cm_eq, cm_ne, cm_lt, cm_le, cm_gt, cm_ge, eq_int, eq_str, eq_bytes, tr_int, tr_bool, cd_int, cd_str, cd_bytes, cd_none, cd_bool, nocontains, String.reduceEq, if_true, if_false, Bool.false_eq_true, Option.map_some, ex_tup_call, ex_tup_disp, namesOf_nil, namesOf_name, putsO_some, puts_nil, puts_cons, tupV_some, tupD_some, evCO_some, evC_nil, evC_step, consC_some, List.map_cons, List.map_nil, methN_own, ev_meth_name, ev_meth_const, ev_meth_sub, ev_meth_call, callM_some, beq_self_eq_true, Bool.and_self, Bool.and_true, Nat.reduceLT, listO_s, tupO_s, List.length_cons, List.length_nil, Nat.reduceAdd, Nat.reduceLeDiff, methN_val, List.all_nil, List.all_cons, decide_true, decide_false, List.take_succ_cons, List.take_zero, List.nil_append, List.cons_append]
end Mine
end
section
open PySem
set_option maxRecDepth 100000
set_option Elab.async false
set_option linter.unusedSimpArgs false
set_option linter.unusedVariables false
set_option maxHeartbeats 4000000
namespace Mine
theorem nL_places : stOk nL (Str.ofString "places") = true := by decide +kernel
theorem nL_powers : stOk nL (Str.ofString "powers") = true := by decide +kernel
theorem nL_due : stOk nL (Str.ofString "due") = true := by decide +kernel
theorem nL_sign : stOk nL (Str.ofString "sign") = true := by decide +kernel
theorem nL_bytes : nL.lookup (Str.ofString "bytes") = some .globalImplicit := by decide +kernel
theorem nL_sum : nL.lookup (Str.ofString "sum") = some .globalImplicit := by decide +kernel
theorem b_bytes : builtinNames.contains (Str.ofString "bytes") = true := by decide +kernel
-- places
noncomputable def plD (M : List Nat) : D → D
  | .int k => .int (((M.getD k.toNat 0 + 1 : Nat) : Int) + (M.length : Nat) - 2 - k)
  | d => d
theorem pl_list : ∀ (M X : List Nat), (X ++ M).length ≤ 100 → ((List.range' X.length M.length).map fun (k : Nat) => D.int (k : Int)).map (plD (X ++ M)) = intsD (plcS 0 M)
  | [], X, _ => rfl
  | m :: M, X, h => by
    have ih := pl_list M (X ++ [m]) (by rw [List.append_assoc]; exact h)
    rw [List.append_assoc, List.length_append] at ih
    rw [List.length_cons, List.range'_succ, List.map_cons, List.map_cons, plcS]
    have e : plD (X ++ m :: M) (.int (X.length : Nat)) = .int ((m + M.length + 0 : Nat) : Int) := by
      show D.int (((((X ++ m :: M).getD ((X.length : Nat) : Int).toNat 0 + 1 : Nat) : Int) + ((X ++ m :: M).length : Nat) - 2 - (X.length : Nat))) = _
      rw [Int.toNat_natCast, List.getD_eq_getElem?_getD, List.getElem?_append_right (Nat.le_refl _), Nat.sub_self, List.getElem?_cons_zero, Option.getD_some, List.length_append, List.length_cons]
      exact congrArg D.int (by omega)
    rw [e]
    exact congrArg _ ih
theorem wL_places (Φ : Fns) (cs : List D) (N : Int) (M : List Nat) (hM : M.length ≤ 90) (hx : ∀ m ∈ M, m ≤ 90) : ev Φ (tst? bL 4) nL [vL "cells" cs, vI "number" N, vL "rows" (rowsM M)] = some (.list (intsD (plcS 0 M))) := by
  have hlen : builtin? (Str.ofString "len") [.list (rowsM M)] = some (.int (M.length : Nat)) := by
    rw [lenL (by rw [rowsM_len]; exact le_cap (by omega)), rowsM_len]
  have hr : range? [.int (M.length : Nat)] = some ((List.range' 0 M.length).map fun (k : Nat) => .int (k : Int)) := by
    have e : range? [.int (M.length : Nat)] = if (decide ((-1000000 : Int) ≤ (M.length : Nat)) && decide (((M.length : Nat) : Int) ≤ 1000000)) = true then some (rangeL 0 1 ((M.length : Nat) : Int).toNat) else none := rfl
    rw [e, if_pos (by simp; omega)]
    unfold rangeL
    simp [List.range_eq_range']
  conv => lhs; arg 2; whnf
  simp only [exs_nil, exs_cons, andThen_next, andThen_brk, andThen_ret, ifS_true, ifS_false, ex_if, ex_pass, ex_break, retS_some, ex_ret, asgS_some, ex_asg, augS_some, ex_aug, appS_some, ex_app, forS_some, ex_for, ex_while, ev_const, ev_name, bin2_some, ev_bin, negO_some, ev_neg, ifE_true, ifE_false, ev_if, ev_list, ev_tuple, cons2_some, evs_nil, evs_cons, cmp2_some, evT_cmp, ev_cmp, truthO_some, evT_name, evT_bin, evT_and, evT_or, evT_not, andS_true, andS_false, orS_true, orS_false, evA_nil, evR_nil, evA_cons, evR_cons, ev_call, evT_call, slice4_some, ev_slice, evO_none, evO_some, idxO_some, ev_idx_name, ev_idx_const, ev_idx_bin, ev_idx_un, ev_comp, evI_name, evI_list, evI_slice, evI_range, rangeO_some, getV_val, getV_own, lookup_s, put_nil, put_s, freeze_miss, freeze0, own0, asg0, aug0, for0, eq_self, not_false_eq_true, not_true_eq_false, vI, vS, vB, vL, vO, bo_addI, bo_subI, bo_andI, cm_eq, cm_ne, cm_lt, cm_le, cm_gt, cm_ge, eq_int, eq_str, eq_bytes, tr_int, tr_bool, cd_int, cd_str, cd_bytes, cd_none, cd_bool, nocontains, String.reduceEq, if_true, if_false, Bool.false_eq_true, Option.map_some, ex_tup_call, ex_tup_disp, namesOf_nil, namesOf_name, putsO_some, puts_nil, puts_cons, tupV_some, tupD_some, evCO_some, evC_nil, evC_step, consC_some, List.map_cons, List.map_nil, methN_own, ev_meth_name, ev_meth_const, ev_meth_sub, ev_meth_call, callM_some, beq_self_eq_true, Bool.and_self, Bool.and_true, Nat.reduceLT, listO_s, tupO_s, List.length_cons, List.length_nil, Nat.reduceAdd, Nat.reduceLeDiff, methN_val, List.all_nil, List.all_cons, decide_true, decide_false, List.take_succ_cons, List.take_zero, List.nil_append, List.cons_append, nL_rng, nL_len, callF_bi _ b_len, hlen, hr]
  rw [compS_some (by rw [List.length_map, List.length_range']; exact le_cap (by omega)) (by rw [List.all_eq_true]; intro x hx; obtain ⟨j, _, rfl⟩ := List.mem_map.mp hx; rfl)]
  · simp only [inner_eq, evA_nil, fm_cons, List.filterMap_nil, lookup_k, nk_ff, nk_lf, nk_gf, nk_cc, String.reduceEq, if_true, if_false, Bool.and_true, Bool.false_and, Bool.and_false, Bool.false_eq_true, innerV_val, vL, vI, vS, vB, nL_rows']
    rw [compL_map (f := plD M)]
    · have := pl_list M [] (by rw [List.nil_append]; omega)
      rw [List.nil_append] at this
      rw [show List.range' 0 M.length = List.range' ([] : List Nat).length M.length from rfl, this]; rfl
    · intro d hd
      obtain ⟨j, hj, rfl⟩ := List.mem_map.mp hd
      have hjl : j < M.length := by have := List.mem_range'.mp hj; omega
      have hat : M[j]? = some (M.getD j 0) := by rw [List.getD_eq_getElem?_getD, List.getElem?_eq_getElem hjl]; rfl
      have hi := rowsM_at hat (by omega)
      have hm : M.getD j 0 ≤ 90 := hx _ (List.mem_of_getElem? hat)
      refine ⟨?_, rfl⟩
      simp only [exs_nil, exs_cons, andThen_next, andThen_brk, andThen_ret, ifS_true, ifS_false, ex_if, ex_pass, ex_break, retS_some, ex_ret, asgS_some, ex_asg, augS_some, ex_aug, appS_some, ex_app, forS_some, ex_for, ex_while, ev_const, ev_name, bin2_some, ev_bin, negO_some, ev_neg, ifE_true, ifE_false, ev_if, ev_list, ev_tuple, cons2_some, evs_nil, evs_cons, cmp2_some, evT_cmp, ev_cmp, truthO_some, evT_name, evT_bin, evT_and, evT_or, evT_not, andS_true, andS_false, orS_true, orS_false, evA_nil, evR_nil, evA_cons, evR_cons, ev_call, evT_call, slice4_some, ev_slice, evO_none, evO_some, idxO_some, ev_idx_name, ev_idx_const, ev_idx_bin, ev_idx_un, ev_comp, evI_name, evI_list, evI_slice, evI_range, rangeO_some, getV_val, getV_own, lookup_s, put_nil, put_s, freeze_miss, freeze0, own0, asg0, aug0, for0, eq_self, not_false_eq_true, not_true_eq_false, vI, vS, vB, vL, vO, bo_addI, bo_subI, bo_andI, cm_eq, cm_ne, cm_lt, cm_le, cm_gt, cm_ge, eq_int, eq_str, eq_bytes, tr_int, tr_bool, cd_int, cd_str, cd_bytes, cd_none, cd_bool, nocontains, String.reduceEq, if_true, if_false, Bool.false_eq_true, Option.map_some, ex_tup_call, ex_tup_disp, namesOf_nil, namesOf_name, putsO_some, puts_nil, puts_cons, tupV_some, tupD_some, evCO_some, evC_nil, evC_step, consC_some, List.map_cons, List.map_nil, methN_own, ev_meth_name, ev_meth_const, ev_meth_sub, ev_meth_call, callM_some, beq_self_eq_true, Bool.and_self, Bool.and_true, Nat.reduceLT, listO_s, tupO_s, List.length_cons, List.length_nil, Nat.reduceAdd, Nat.reduceLeDiff, methN_val, List.all_nil, List.all_cons, decide_true, decide_false, List.take_succ_cons, List.take_zero, List.nil_append, List.cons_append, lookup_k, hi, callF_bi _ b_len, hlen, dot_len (M.getD j 0) (show M.getD j 0 ≤ 300 by omega), plD, Int.toNat_natCast]
  · decide +kernel
-- powers
noncomputable def powD (N : Nat) : D → Bool
  | .int k => decide (16 ^ k.toNat ≤ N)
  | _ => false
noncomputable def powV : D → D
  | .int k => .int ((16 ^ k.toNat : Nat) : Int)
  | d => d
noncomputable def pows (N : Nat) : List Nat := ((descL 7).filter fun k => decide (16 ^ k ≤ N)).map (16 ^ ·)
theorem pow_nat (a k : Nat) (ha : small (a : Int) = true) (hk : k ≤ 1000) : binop .Pow (.int (a : Int)) (.int (k : Int)) = some (.int ((a ^ k : Nat) : Int)) := by
  rw [bo_powI ha (by omega) (by omega), Int.toNat_natCast, Int.natCast_pow]
theorem pow_filter (N : Nat) : ∀ l : List Nat, ((intsD l).filter (powD N)).map powV = intsD ((l.filter fun k => decide (16 ^ k ≤ N)).map (16 ^ ·))
  | [] => rfl
  | x :: l => by
    have ih := pow_filter N l
    have e : intsD (x :: l) = .int (x : Int) :: intsD l := rfl
    rw [e, List.filter_cons, List.filter_cons, show powD N (.int (x : Int)) = decide (16 ^ x ≤ N) from rfl]
    split
    · rw [List.map_cons, ih]; rfl
    · exact ih
theorem range7 : range? [.int 6, .int (-1), .int (-1)] = some (intsD (descL 7)) := by
  have : range? [.int 6, .int (-1), .int (-1)] = some (rangeL 6 (-1) 7) := rfl
  rw [this]; rfl
theorem wL_powers (Φ : Fns) (cs R P : List D) (N : Nat) : ev Φ (tst? bL 5) nL [vL "cells" cs, vI "number" (N : Int), vL "rows" R, vL "places" P] = some (.list (intsD (pows N))) := by
  conv => lhs; arg 2; whnf
  simp only [exs_nil, exs_cons, andThen_next, andThen_brk, andThen_ret, ifS_true, ifS_false, ex_if, ex_pass, ex_break, retS_some, ex_ret, asgS_some, ex_asg, augS_some, ex_aug, appS_some, ex_app, forS_some, ex_for, ex_while, ev_const, ev_name, bin2_some, ev_bin, negO_some, ev_neg, ifE_true, ifE_false, ev_if, ev_list, ev_tuple, cons2_some, evs_nil, evs_cons, cmp2_some, evT_cmp, ev_cmp, truthO_some, evT_name, evT_bin, evT_and, evT_or, evT_not, andS_true, andS_false, orS_true, orS_false, evA_nil, evR_nil, evA_cons, evR_cons, ev_call, evT_call, slice4_some, ev_slice, evO_none, evO_some, idxO_some, ev_idx_name, ev_idx_const, ev_idx_bin, ev_idx_un, ev_comp, evI_name, evI_list, evI_slice, evI_range, rangeO_some, getV_val, getV_own, lookup_s, put_nil, put_s, freeze_miss, freeze0, own0, asg0, aug0, for0, eq_self, not_false_eq_true, not_true_eq_false, vI, vS, vB, vL, vO, bo_addI, bo_subI, bo_andI, cm_eq, cm_ne, cm_lt, cm_le, cm_gt, cm_ge, eq_int, eq_str, eq_bytes, tr_int, tr_bool, cd_int, cd_str, cd_bytes, cd_none, cd_bool, nocontains, String.reduceEq, if_true, if_false, Bool.false_eq_true, Option.map_some, ex_tup_call, ex_tup_disp, namesOf_nil, namesOf_name, putsO_some, puts_nil, puts_cons, tupV_some, tupD_some, evCO_some, evC_nil, evC_step, consC_some, List.map_cons, List.map_nil, methN_own, ev_meth_name, ev_meth_const, ev_meth_sub, ev_meth_call, callM_some, beq_self_eq_true, Bool.and_self, Bool.and_true, Nat.reduceLT, listO_s, tupO_s, List.length_cons, List.length_nil, Nat.reduceAdd, Nat.reduceLeDiff, methN_val, List.all_nil, List.all_cons, decide_true, decide_false, List.take_succ_cons, List.take_zero, List.nil_append, List.cons_append, nL_rng, range7]
  rw [compS_some (by rw [intsD_len]; exact le_cap (by decide)) (intsD_imm _)]
  · simp only [inner_eq, evA_nil, fm_cons, List.filterMap_nil, lookup_k, nk_ff, nk_lf, nk_gf, nk_cc, String.reduceEq, if_true, if_false, Bool.and_true, Bool.false_and, Bool.and_false, Bool.false_eq_true, innerV_val, vL, vI, vS, vB, nL_number']
    rw [compL_filter (p := powD N) (f := powV), pow_filter]
    · simp only [exs_nil, exs_cons, andThen_next, andThen_brk, andThen_ret, ifS_true, ifS_false, ex_if, ex_pass, ex_break, retS_some, ex_ret, asgS_some, ex_asg, augS_some, ex_aug, appS_some, ex_app, forS_some, ex_for, ex_while, ev_const, ev_name, bin2_some, ev_bin, negO_some, ev_neg, ifE_true, ifE_false, ev_if, ev_list, ev_tuple, cons2_some, evs_nil, evs_cons, cmp2_some, evT_cmp, ev_cmp, truthO_some, evT_name, evT_bin, evT_and, evT_or, evT_not, andS_true, andS_false, orS_true, orS_false, evA_nil, evR_nil, evA_cons, evR_cons, ev_call, evT_call, slice4_some, ev_slice, evO_none, evO_some, idxO_some, ev_idx_name, ev_idx_const, ev_idx_bin, ev_idx_un, ev_comp, evI_name, evI_list, evI_slice, evI_range, rangeO_some, getV_val, getV_own, lookup_s, put_nil, put_s, freeze_miss, freeze0, own0, asg0, aug0, for0, eq_self, not_false_eq_true, not_true_eq_false, vI, vS, vB, vL, vO, bo_addI, bo_subI, bo_andI, cm_eq, cm_ne, cm_lt, cm_le, cm_gt, cm_ge, eq_int, eq_str, eq_bytes, tr_int, tr_bool, cd_int, cd_str, cd_bytes, cd_none, cd_bool, nocontains, String.reduceEq, if_true, if_false, Bool.false_eq_true, Option.map_some, ex_tup_call, ex_tup_disp, namesOf_nil, namesOf_name, putsO_some, puts_nil, puts_cons, tupV_some, tupD_some, evCO_some, evC_nil, evC_step, consC_some, List.map_cons, List.map_nil, methN_own, ev_meth_name, ev_meth_const, ev_meth_sub, ev_meth_call, callM_some, beq_self_eq_true, Bool.and_self, Bool.and_true, Nat.reduceLT, listO_s, tupO_s, List.length_cons, List.length_nil, Nat.reduceAdd, Nat.reduceLeDiff, methN_val, List.all_nil, List.all_cons, decide_true, decide_false, List.take_succ_cons, List.take_zero, List.nil_append, List.cons_append]; rfl
    · intro d hd
      obtain ⟨x, hx, rfl⟩ := List.mem_map.mp hd
      have hx7 := mem_desc.mp hx
      have h2 := pow_nat 16 x (by decide) (by omega)
      have e : ((16 : Nat) : Int) = 16 := rfl
      rw [e] at h2
      refine ⟨?_, fun _ => ⟨?_, rfl⟩⟩
      · simp only [exs_nil, exs_cons, andThen_next, andThen_brk, andThen_ret, ifS_true, ifS_false, ex_if, ex_pass, ex_break, retS_some, ex_ret, asgS_some, ex_asg, augS_some, ex_aug, appS_some, ex_app, forS_some, ex_for, ex_while, ev_const, ev_name, bin2_some, ev_bin, negO_some, ev_neg, ifE_true, ifE_false, ev_if, ev_list, ev_tuple, cons2_some, evs_nil, evs_cons, cmp2_some, evT_cmp, ev_cmp, truthO_some, evT_name, evT_bin, evT_and, evT_or, evT_not, andS_true, andS_false, orS_true, orS_false, evA_nil, evR_nil, evA_cons, evR_cons, ev_call, evT_call, slice4_some, ev_slice, evO_none, evO_some, idxO_some, ev_idx_name, ev_idx_const, ev_idx_bin, ev_idx_un, ev_comp, evI_name, evI_list, evI_slice, evI_range, rangeO_some, getV_val, getV_own, lookup_s, put_nil, put_s, freeze_miss, freeze0, own0, asg0, aug0, for0, eq_self, not_false_eq_true, not_true_eq_false, vI, vS, vB, vL, vO, bo_addI, bo_subI, bo_andI, cm_eq, cm_ne, cm_lt, cm_le, cm_gt, cm_ge, eq_int, eq_str, eq_bytes, tr_int, tr_bool, cd_int, cd_str, cd_bytes, cd_none, cd_bool, nocontains, String.reduceEq, if_true, if_false, Bool.false_eq_true, Option.map_some, ex_tup_call, ex_tup_disp, namesOf_nil, namesOf_name, putsO_some, puts_nil, puts_cons, tupV_some, tupD_some, evCO_some, evC_nil, evC_step, consC_some, List.map_cons, List.map_nil, methN_own, ev_meth_name, ev_meth_const, ev_meth_sub, ev_meth_call, callM_some, beq_self_eq_true, Bool.and_self, Bool.and_true, Nat.reduceLT, listO_s, tupO_s, List.length_cons, List.length_nil, Nat.reduceAdd, Nat.reduceLeDiff, methN_val, List.all_nil, List.all_cons, decide_true, decide_false, List.take_succ_cons, List.take_zero, List.nil_append, List.cons_append, lookup_k, h2]
        show andS _ _ _ _ (some (decide (((16 ^ x : Nat) : Int) ≤ (N : Int)))) = some (decide (16 ^ x ≤ N))
        rw [show decide (((16 ^ x : Nat) : Int) ≤ (N : Int)) = decide (16 ^ x ≤ N) from decide_eq_decide.mpr Int.ofNat_le]
        cases decide (16 ^ x ≤ N) <;> rfl
      · simp only [exs_nil, exs_cons, andThen_next, andThen_brk, andThen_ret, ifS_true, ifS_false, ex_if, ex_pass, ex_break, retS_some, ex_ret, asgS_some, ex_asg, augS_some, ex_aug, appS_some, ex_app, forS_some, ex_for, ex_while, ev_const, ev_name, bin2_some, ev_bin, negO_some, ev_neg, ifE_true, ifE_false, ev_if, ev_list, ev_tuple, cons2_some, evs_nil, evs_cons, cmp2_some, evT_cmp, ev_cmp, truthO_some, evT_name, evT_bin, evT_and, evT_or, evT_not, andS_true, andS_false, orS_true, orS_false, evA_nil, evR_nil, evA_cons, evR_cons, ev_call, evT_call, slice4_some, ev_slice, evO_none, evO_some, idxO_some, ev_idx_name, ev_idx_const, ev_idx_bin, ev_idx_un, ev_comp, evI_name, evI_list, evI_slice, evI_range, rangeO_some, getV_val, getV_own, lookup_s, put_nil, put_s, freeze_miss, freeze0, own0, asg0, aug0, for0, eq_self, not_false_eq_true, not_true_eq_false, vI, vS, vB, vL, vO, bo_addI, bo_subI, bo_andI, cm_eq, cm_ne, cm_lt, cm_le, cm_gt, cm_ge, eq_int, eq_str, eq_bytes, tr_int, tr_bool, cd_int, cd_str, cd_bytes, cd_none, cd_bool, nocontains, String.reduceEq, if_true, if_false, Bool.false_eq_true, Option.map_some, ex_tup_call, ex_tup_disp, namesOf_nil, namesOf_name, putsO_some, puts_nil, puts_cons, tupV_some, tupD_some, evCO_some, evC_nil, evC_step, consC_some, List.map_cons, List.map_nil, methN_own, ev_meth_name, ev_meth_const, ev_meth_sub, ev_meth_call, callM_some, beq_self_eq_true, Bool.and_self, Bool.and_true, Nat.reduceLT, listO_s, tupO_s, List.length_cons, List.length_nil, Nat.reduceAdd, Nat.reduceLeDiff, methN_val, List.all_nil, List.all_cons, decide_true, decide_false, List.take_succ_cons, List.take_zero, List.nil_append, List.cons_append, lookup_k, h2]
        rfl
  · decide +kernel
-- what is due
noncomputable def dueV (N : Nat) : D → D
  | .int p => .int ((65 + N / p.toNat % 16 : Nat) : Int)
  | d => d
theorem due_map (N : Nat) (l : List Nat) : (intsD l).map (dueV N) = intsD (l.map fun p => 65 + N / p % 16) := by
  unfold intsD
  rw [List.map_map, List.map_map]; rfl
theorem bytes_ok (l : List Nat) (h : ∀ x ∈ l, x ≤ 255) (hl : l.length ≤ 100) : builtin? (Str.ofString "bytes") [.list (intsD l)] = some (.bytes (l.map fun x => UInt8.ofNat x)) := by
  have e : builtin? (Str.ofString "bytes") [.list (intsD l)] = bytL (intsD l) := by
    unfold builtin?
    rw [if_neg (by decide +kernel), if_neg (by decide +kernel), if_neg (by decide +kernel), if_neg (by decide +kernel), if_neg (by decide +kernel), if_neg (by decide +kernel), if_pos rfl]; rfl
  rw [e]
  unfold bytL
  rw [ints_D, Option.bind_some, if_pos, List.map_map]
  · rfl
  · rw [Bool.and_eq_true, List.all_eq_true, decide_eq_true_eq, List.length_map]
    refine ⟨fun i hi => ?_, by omega⟩
    obtain ⟨x, hx, rfl⟩ := List.mem_map.mp hi
    have := h x hx
    rw [Bool.and_eq_true, decide_eq_true_eq, decide_eq_true_eq]
    omega
theorem div_nat (N k : Nat) (hk : k ≠ 0) (hk2 : k < 1073741824) : binop .FloorDiv (.int (N : Int)) (.int (k : Int)) = some (.int ((N / k : Nat) : Int)) := by
  rw [bo_divI (by omega) (by omega), Int.fdiv_eq_ediv_of_nonneg _ (by omega)]; rfl
theorem pows_le (N : Nat) : ∀ p ∈ pows N, p ≠ 0 ∧ p ≤ 16777216 := by
  intro p hp
  unfold pows at hp
  obtain ⟨k, hk, rfl⟩ := List.mem_map.mp hp
  have hk7 := mem_desc.mp (List.mem_filter.mp hk).1
  refine ⟨Nat.pos_iff_ne_zero.mp (Nat.pow_pos (by decide)), ?_⟩
  have := Nat.pow_le_pow_right (show 16 > 0 by decide) (show k ≤ 6 by omega)
  exact this
theorem pows_len (N : Nat) : (pows N).length ≤ 7 := by
  unfold pows
  rw [List.length_map]
  exact List.length_filter_le _ (descL 7)
theorem wL_due (Φ : Fns) (cs R P : List D) (N : Nat) : ev Φ (tst? bL 6) nL [vL "cells" cs, vI "number" (N : Int), vL "rows" R, vL "places" P, vL "powers" (intsD (pows N))] = some (.bytes (wordB (digs 7 N))) := by
  have hc : (intsD (pows N)).length ≤ cap := by rw [intsD_len]; have := pows_len N; exact le_cap (by omega)
  have hw : (((pows N).map fun p => 65 + N / p % 16).map fun x => UInt8.ofNat x) = wordB (digs 7 N) := by
    unfold wordB digs pows
    rw [List.map_map, List.map_map, List.map_map]; rfl
  have hb := bytes_ok ((pows N).map fun p => 65 + N / p % 16) (fun x hx => by
    obtain ⟨p, _, rfl⟩ := List.mem_map.mp hx
    have := Nat.mod_lt (N / p) (show 16 > 0 by decide)
    omega) (by rw [List.length_map]; have := pows_len N; omega)
  rw [hw] at hb
  conv => lhs; arg 2; whnf
  simp only [exs_nil, exs_cons, andThen_next, andThen_brk, andThen_ret, ifS_true, ifS_false, ex_if, ex_pass, ex_break, retS_some, ex_ret, asgS_some, ex_asg, augS_some, ex_aug, appS_some, ex_app, forS_some, ex_for, ex_while, ev_const, ev_name, bin2_some, ev_bin, negO_some, ev_neg, ifE_true, ifE_false, ev_if, ev_list, ev_tuple, cons2_some, evs_nil, evs_cons, cmp2_some, evT_cmp, ev_cmp, truthO_some, evT_name, evT_bin, evT_and, evT_or, evT_not, andS_true, andS_false, orS_true, orS_false, evA_nil, evR_nil, evA_cons, evR_cons, ev_call, evT_call, slice4_some, ev_slice, evO_none, evO_some, idxO_some, ev_idx_name, ev_idx_const, ev_idx_bin, ev_idx_un, ev_comp, evI_name, evI_list, evI_slice, evI_range, rangeO_some, getV_val, getV_own, lookup_s, put_nil, put_s, freeze_miss, freeze0, own0, asg0, aug0, for0, eq_self, not_false_eq_true, not_true_eq_false, vI, vS, vB, vL, vO, bo_addI, bo_subI, bo_andI, cm_eq, cm_ne, cm_lt, cm_le, cm_gt, cm_ge, eq_int, eq_str, eq_bytes, tr_int, tr_bool, cd_int, cd_str, cd_bytes, cd_none, cd_bool, nocontains, String.reduceEq, if_true, if_false, Bool.false_eq_true, Option.map_some, ex_tup_call, ex_tup_disp, namesOf_nil, namesOf_name, putsO_some, puts_nil, puts_cons, tupV_some, tupD_some, evCO_some, evC_nil, evC_step, consC_some, List.map_cons, List.map_nil, methN_own, ev_meth_name, ev_meth_const, ev_meth_sub, ev_meth_call, callM_some, beq_self_eq_true, Bool.and_self, Bool.and_true, Nat.reduceLT, listO_s, tupO_s, List.length_cons, List.length_nil, Nat.reduceAdd, Nat.reduceLeDiff, methN_val, List.all_nil, List.all_cons, decide_true, decide_false, List.take_succ_cons, List.take_zero, List.nil_append, List.cons_append, iterN_list hc]
  rw [compS_some hc (intsD_imm _)]
  · simp only [inner_eq, evA_nil, fm_cons, List.filterMap_nil, lookup_k, nk_ff, nk_lf, nk_gf, nk_cc, String.reduceEq, if_true, if_false, Bool.and_true, Bool.false_and, Bool.and_false, Bool.false_eq_true, innerV_val, vL, vI, vS, vB, nL_number']
    rw [compL_map (f := dueV N), due_map]
    · simp only [exs_nil, exs_cons, andThen_next, andThen_brk, andThen_ret, ifS_true, ifS_false, ex_if, ex_pass, ex_break, retS_some, ex_ret, asgS_some, ex_asg, augS_some, ex_aug, appS_some, ex_app, forS_some, ex_for, ex_while, ev_const, ev_name, bin2_some, ev_bin, negO_some, ev_neg, ifE_true, ifE_false, ev_if, ev_list, ev_tuple, cons2_some, evs_nil, evs_cons, cmp2_some, evT_cmp, ev_cmp, truthO_some, evT_name, evT_bin, evT_and, evT_or, evT_not, andS_true, andS_false, orS_true, orS_false, evA_nil, evR_nil, evA_cons, evR_cons, ev_call, evT_call, slice4_some, ev_slice, evO_none, evO_some, idxO_some, ev_idx_name, ev_idx_const, ev_idx_bin, ev_idx_un, ev_comp, evI_name, evI_list, evI_slice, evI_range, rangeO_some, getV_val, getV_own, lookup_s, put_nil, put_s, freeze_miss, freeze0, own0, asg0, aug0, for0, eq_self, not_false_eq_true, not_true_eq_false, vI, vS, vB, vL, vO, bo_addI, bo_subI, bo_andI, cm_eq, cm_ne, cm_lt, cm_le, cm_gt, cm_ge, eq_int, eq_str, eq_bytes, tr_int, tr_bool, cd_int, cd_str, cd_bytes, cd_none, cd_bool, nocontains, String.reduceEq, if_true, if_false, Bool.false_eq_true, Option.map_some, ex_tup_call, ex_tup_disp, namesOf_nil, namesOf_name, putsO_some, puts_nil, puts_cons, tupV_some, tupD_some, evCO_some, evC_nil, evC_step, consC_some, List.map_cons, List.map_nil, methN_own, ev_meth_name, ev_meth_const, ev_meth_sub, ev_meth_call, callM_some, beq_self_eq_true, Bool.and_self, Bool.and_true, Nat.reduceLT, listO_s, tupO_s, List.length_cons, List.length_nil, Nat.reduceAdd, Nat.reduceLeDiff, methN_val, List.all_nil, List.all_cons, decide_true, decide_false, List.take_succ_cons, List.take_zero, List.nil_append, List.cons_append, nL_bytes, callF_bi _ b_bytes, hb]
    · intro d hd
      obtain ⟨p, hp, rfl⟩ := List.mem_map.mp hd
      obtain ⟨h0, h1⟩ := pows_le N p hp
      have hd := div_nat N p h0 (by omega)
      have h2 := mod_nat (N / p) 16 (by decide)
      rw [show ((16 : Nat) : Int) = 16 from rfl] at h2
      refine ⟨?_, rfl⟩
      simp only [exs_nil, exs_cons, andThen_next, andThen_brk, andThen_ret, ifS_true, ifS_false, ex_if, ex_pass, ex_break, retS_some, ex_ret, asgS_some, ex_asg, augS_some, ex_aug, appS_some, ex_app, forS_some, ex_for, ex_while, ev_const, ev_name, bin2_some, ev_bin, negO_some, ev_neg, ifE_true, ifE_false, ev_if, ev_list, ev_tuple, cons2_some, evs_nil, evs_cons, cmp2_some, evT_cmp, ev_cmp, truthO_some, evT_name, evT_bin, evT_and, evT_or, evT_not, andS_true, andS_false, orS_true, orS_false, evA_nil, evR_nil, evA_cons, evR_cons, ev_call, evT_call, slice4_some, ev_slice, evO_none, evO_some, idxO_some, ev_idx_name, ev_idx_const, ev_idx_bin, ev_idx_un, ev_comp, evI_name, evI_list, evI_slice, evI_range, rangeO_some, getV_val, getV_own, lookup_s, put_nil, put_s, freeze_miss, freeze0, own0, asg0, aug0, for0, eq_self, not_false_eq_true, not_true_eq_false, vI, vS, vB, vL, vO, bo_addI, bo_subI, bo_andI, cm_eq, cm_ne, cm_lt, cm_le, cm_gt, cm_ge, eq_int, eq_str, eq_bytes, tr_int, tr_bool, cd_int, cd_str, cd_bytes, cd_none, cd_bool, nocontains, String.reduceEq, if_true, if_false, Bool.false_eq_true, Option.map_some, ex_tup_call, ex_tup_disp, namesOf_nil, namesOf_name, putsO_some, puts_nil, puts_cons, tupV_some, tupD_some, evCO_some, evC_nil, evC_step, consC_some, List.map_cons, List.map_nil, methN_own, ev_meth_name, ev_meth_const, ev_meth_sub, ev_meth_call, callM_some, beq_self_eq_true, Bool.and_self, Bool.and_true, Nat.reduceLT, listO_s, tupO_s, List.length_cons, List.length_nil, Nat.reduceAdd, Nat.reduceLeDiff, methN_val, List.all_nil, List.all_cons, decide_true, decide_false, List.take_succ_cons, List.take_zero, List.nil_append, List.cons_append, lookup_k, hd, h2, dueV, Int.toNat_natCast]
      exact congrArg some (congrArg D.int (by omega))
  · decide +kernel
-- the number again
noncomputable def twoV : D → D
  | .int p => .int ((2 ^ p.toNat : Nat) : Int)
  | d => d
theorem two_map (l : List Nat) : (intsD l).map twoV = intsD (l.map (2 ^ ·)) := by
  unfold intsD
  rw [List.map_map, List.map_map]; rfl
theorem sum_nat : ∀ l : List Nat, (l.map fun (n : Nat) => (n : Int)).sum = ((l.sum : Nat) : Int)
  | [] => rfl
  | x :: l => by
    rw [List.map_cons, List.sum_cons, List.sum_cons, sum_nat l]
    omega
theorem wL_same (Φ : Fns) (cs R : List D) (N : Nat) (ps : List Nat) (pw : List D) (du : List UInt8) (hl : ps.length ≤ 100) (hp : ∀ p ∈ ps, p ≤ 30)
    (hI : Φ (Str.ofString "Int2AP") [.int (-((numP ps : Nat) : Int))] = some (.bytes du)) :
    evT Φ (tst? bL 7) nL [vL "cells" cs, vI "number" (N : Int), vL "rows" R, vL "places" (intsD ps), vL "powers" pw, vB "due" du] = some false := by
  have hc : (intsD ps).length ≤ cap := by rw [intsD_len]; exact le_cap (by omega)
  have hsum : builtin? (Str.ofString "sum") [.list (intsD (ps.map (2 ^ ·)))] = some (.int (numP ps : Nat)) := by
    have := sum_ok (xs := (ps.map (2 ^ ·)).map fun (n : Nat) => (n : Int)) (by
      intro i hi
      obtain ⟨x, hx, rfl⟩ := List.mem_map.mp hi
      obtain ⟨p, hpm, rfl⟩ := List.mem_map.mp hx
      have h3 : 2 ^ p ≤ 1073741824 := Nat.pow_le_pow_right (show 2 > 0 by decide) (hp p hpm)
      show (-1000000000000 : Int) ≤ ((2 ^ p : Nat) : Int) ∧ ((2 ^ p : Nat) : Int) ≤ 1000000000000
      generalize 2 ^ p = y at h3
      omega) (by rw [List.length_map, List.length_map]; omega)
    rw [List.map_map, sum_nat] at this
    exact this
  conv => lhs; arg 2; whnf
  simp only [exs_nil, exs_cons, andThen_next, andThen_brk, andThen_ret, ifS_true, ifS_false, ex_if, ex_pass, ex_break, retS_some, ex_ret, asgS_some, ex_asg, augS_some, ex_aug, appS_some, ex_app, forS_some, ex_for, ex_while, ev_const, ev_name, bin2_some, ev_bin, negO_some, ev_neg, ifE_true, ifE_false, ev_if, ev_list, ev_tuple, cons2_some, evs_nil, evs_cons, cmp2_some, evT_cmp, ev_cmp, truthO_some, evT_name, evT_bin, evT_and, evT_or, evT_not, andS_true, andS_false, orS_true, orS_false, evA_nil, evR_nil, evA_cons, evR_cons, ev_call, evT_call, slice4_some, ev_slice, evO_none, evO_some, idxO_some, ev_idx_name, ev_idx_const, ev_idx_bin, ev_idx_un, ev_comp, evI_name, evI_list, evI_slice, evI_range, rangeO_some, getV_val, getV_own, lookup_s, put_nil, put_s, freeze_miss, freeze0, own0, asg0, aug0, for0, eq_self, not_false_eq_true, not_true_eq_false, vI, vS, vB, vL, vO, bo_addI, bo_subI, bo_andI, cm_eq, cm_ne, cm_lt, cm_le, cm_gt, cm_ge, eq_int, eq_str, eq_bytes, tr_int, tr_bool, cd_int, cd_str, cd_bytes, cd_none, cd_bool, nocontains, String.reduceEq, if_true, if_false, Bool.false_eq_true, Option.map_some, ex_tup_call, ex_tup_disp, namesOf_nil, namesOf_name, putsO_some, puts_nil, puts_cons, tupV_some, tupD_some, evCO_some, evC_nil, evC_step, consC_some, List.map_cons, List.map_nil, methN_own, ev_meth_name, ev_meth_const, ev_meth_sub, ev_meth_call, callM_some, beq_self_eq_true, Bool.and_self, Bool.and_true, Nat.reduceLT, listO_s, tupO_s, List.length_cons, List.length_nil, Nat.reduceAdd, Nat.reduceLeDiff, methN_val, List.all_nil, List.all_cons, decide_true, decide_false, List.take_succ_cons, List.take_zero, List.nil_append, List.cons_append, iterN_list hc]
  rw [compS_some hc (intsD_imm _)]
  · simp only [inner_eq, evA_nil, fm_cons, List.filterMap_nil, lookup_k, nk_ff, nk_lf, nk_gf, nk_cc, String.reduceEq, if_true, if_false, Bool.and_true, Bool.false_and, Bool.and_false, Bool.false_eq_true, innerV_val, vL, vI, vS, vB]
    rw [compL_map (f := twoV), two_map]
    · simp only [exs_nil, exs_cons, andThen_next, andThen_brk, andThen_ret, ifS_true, ifS_false, ex_if, ex_pass, ex_break, retS_some, ex_ret, asgS_some, ex_asg, augS_some, ex_aug, appS_some, ex_app, forS_some, ex_for, ex_while, ev_const, ev_name, bin2_some, ev_bin, negO_some, ev_neg, ifE_true, ifE_false, ev_if, ev_list, ev_tuple, cons2_some, evs_nil, evs_cons, cmp2_some, evT_cmp, ev_cmp, truthO_some, evT_name, evT_bin, evT_and, evT_or, evT_not, andS_true, andS_false, orS_true, orS_false, evA_nil, evR_nil, evA_cons, evR_cons, ev_call, evT_call, slice4_some, ev_slice, evO_none, evO_some, idxO_some, ev_idx_name, ev_idx_const, ev_idx_bin, ev_idx_un, ev_comp, evI_name, evI_list, evI_slice, evI_range, rangeO_some, getV_val, getV_own, lookup_s, put_nil, put_s, freeze_miss, freeze0, own0, asg0, aug0, for0, eq_self, not_false_eq_true, not_true_eq_false, vI, vS, vB, vL, vO, bo_addI, bo_subI, bo_andI, cm_eq, cm_ne, cm_lt, cm_le, cm_gt, cm_ge, eq_int, eq_str, eq_bytes, tr_int, tr_bool, cd_int, cd_str, cd_bytes, cd_none, cd_bool, nocontains, String.reduceEq, if_true, if_false, Bool.false_eq_true, Option.map_some, ex_tup_call, ex_tup_disp, namesOf_nil, namesOf_name, putsO_some, puts_nil, puts_cons, tupV_some, tupD_some, evCO_some, evC_nil, evC_step, consC_some, List.map_cons, List.map_nil, methN_own, ev_meth_name, ev_meth_const, ev_meth_sub, ev_meth_call, callM_some, beq_self_eq_true, Bool.and_self, Bool.and_true, Nat.reduceLT, listO_s, tupO_s, List.length_cons, List.length_nil, Nat.reduceAdd, Nat.reduceLeDiff, methN_val, List.all_nil, List.all_cons, decide_true, decide_false, List.take_succ_cons, List.take_zero, List.nil_append, List.cons_append, nL_sum, callF_bi _ b_sum, hsum, nL_fi, callF_user _ b_fi, hI, Bool.not_true]
    · intro d hd
      obtain ⟨p, hpm, rfl⟩ := List.mem_map.mp hd
      have h2 := pow_nat 2 p (by decide) (by have := hp p hpm; omega)
      rw [show ((2 : Nat) : Int) = 2 from rfl] at h2
      refine ⟨?_, rfl⟩
      simp only [exs_nil, exs_cons, andThen_next, andThen_brk, andThen_ret, ifS_true, ifS_false, ex_if, ex_pass, ex_break, retS_some, ex_ret, asgS_some, ex_asg, augS_some, ex_aug, appS_some, ex_app, forS_some, ex_for, ex_while, ev_const, ev_name, bin2_some, ev_bin, negO_some, ev_neg, ifE_true, ifE_false, ev_if, ev_list, ev_tuple, cons2_some, evs_nil, evs_cons, cmp2_some, evT_cmp, ev_cmp, truthO_some, evT_name, evT_bin, evT_and, evT_or, evT_not, andS_true, andS_false, orS_true, orS_false, evA_nil, evR_nil, evA_cons, evR_cons, ev_call, evT_call, slice4_some, ev_slice, evO_none, evO_some, idxO_some, ev_idx_name, ev_idx_const, ev_idx_bin, ev_idx_un, ev_comp, evI_name, evI_list, evI_slice, evI_range, rangeO_some, getV_val, getV_own, lookup_s, put_nil, put_s, freeze_miss, freeze0, own0, asg0, aug0, for0, eq_self, not_false_eq_true, not_true_eq_false, vI, vS, vB, vL, vO, bo_addI, bo_subI, bo_andI, cm_eq, cm_ne, cm_lt, cm_le, cm_gt, cm_ge, eq_int, eq_str, eq_bytes, tr_int, tr_bool, cd_int, cd_str, cd_bytes, cd_none, cd_bool, nocontains, String.reduceEq, if_true, if_false, Bool.false_eq_true, Option.map_some, ex_tup_call, ex_tup_disp, namesOf_nil, namesOf_name, putsO_some, puts_nil, puts_cons, tupV_some, tupD_some, evCO_some, evC_nil, evC_step, consC_some, List.map_cons, List.map_nil, methN_own, ev_meth_name, ev_meth_const, ev_meth_sub, ev_meth_call, callM_some, beq_self_eq_true, Bool.and_self, Bool.and_true, Nat.reduceLT, listO_s, tupO_s, List.length_cons, List.length_nil, Nat.reduceAdd, Nat.reduceLeDiff, methN_val, List.all_nil, List.all_cons, decide_true, decide_false, List.take_succ_cons, List.take_zero, List.nil_append, List.cons_append, lookup_k, h2, twoV, Int.toNat_natCast]
  · decide +kernel
end Mine
end
section
open PySem
set_option maxRecDepth 100000
set_option Elab.async false
set_option linter.unusedSimpArgs false
set_option linter.unusedVariables false
set_option maxHeartbeats 4000000
namespace Mine
noncomputable abbrev PL : Pol := { own := [Str.ofString "seen", Str.ofString "found"], freeze := [(109, Str.ofString "found")] }
theorem fL {line : Nat} {ρ : Rho} (h : (109 != line) = true) : freeze PL line ρ = ρ := freeze_miss (by simpa using h)
theorem nL_tail : stOk nL (Str.ofString "tail") = true := by decide +kernel
theorem nL_place : stOk nL (Str.ofString "place") = true := by decide +kernel
theorem nL_falls : stOk nL (Str.ofString "falls") = true := by decide +kernel
theorem nL_rest : stOk nL (Str.ofString "rest") = true := by decide +kernel
theorem oL_tail : PL.own.contains (Str.ofString "tail") = false := by decide +kernel
theorem oL_place : PL.own.contains (Str.ofString "place") = false := by decide +kernel
theorem oL_falls : PL.own.contains (Str.ofString "falls") = false := by decide +kernel
theorem oL_seen : PL.own.contains (Str.ofString "seen") = true := by decide +kernel
theorem oL_found : PL.own.contains (Str.ofString "found") = true := by decide +kernel
theorem nL_d : dispOk nL [Str.ofString "falls", Str.ofString "seen", Str.ofString "found"] = true := by decide +kernel
theorem nL_t1 : tupOk PL nL [Str.ofString "half", Str.ofString "low"] = true := by decide +kernel
theorem nL_t2 : tupOk PL nL [Str.ofString "quarter", Str.ofString "high"] = true := by decide +kernel
theorem nL_fh : nL.lookup (Str.ofString "_law_half") = some .globalImplicit := by decide +kernel
theorem nL_fg : nL.lookup (Str.ofString "_law_hooks") = some .globalImplicit := by decide +kernel
theorem nL_fp : nL.lookup (Str.ofString "parse257") = some .globalImplicit := by decide +kernel
theorem nL_str : nL.lookup (Str.ofString "str") = some .globalImplicit := by decide +kernel
theorem b_fh : builtinNames.contains (Str.ofString "_law_half") = false := by decide +kernel
theorem b_fg : builtinNames.contains (Str.ofString "_law_hooks") = false := by decide +kernel
theorem b_str : builtinNames.contains (Str.ofString "str") = true := by decide +kernel
theorem q34 : Str.ofString "\"" = sl [34] := by decide +kernel
theorem q0 : Str.ofString "" = sl [] := by decide +kernel
theorem qx : Str.ofString "\" \"x" = sl [34, 32, 34, 120] := by decide +kernel
theorem count_own (l : List Nat) (r : Nat) (h : l.length ≤ 100) : callOwn (Str.ofString "count") (intsD l) (some [.int (r : Int)]) = some (.int ((l.count r : Nat) : Int)) := by
  have e0 : callOwn (Str.ofString "count") (intsD l) (some [.int (r : Int)]) = (ints? (intsD l)).bind fun is => if is.length ≤ 1000 then some (.int (is.count (r : Int))) else .none := if_pos (c := Str.ofString "count" = ("count" : Str)) (e := none) rfl
  rw [e0, ints_D]
  refine (if_pos (by rw [List.length_map]; omega)).trans ?_
  have e : (l.map fun (n : Nat) => (n : Int)).count (r : Int) = l.count r := by
    clear e0
    induction l with
    | nil => rfl
    | cons x l ih =>
      rw [List.length_cons] at h
      rw [List.map_cons, List.count_cons, List.count_cons, ih (by omega)]
      congr 1
      by_cases hx : x = r
      · subst hx; rw [if_pos (beq_self_eq_true _), if_pos (beq_self_eq_true _)]
      · rw [if_neg (by rw [beq_iff_eq]; omega), if_neg (by rw [beq_iff_eq]; exact hx)]
  rw [e]
noncomputable def rhoP (cs R : List D) (c : Nat) (P : List D) (f : Int) (S Fo : List D) : Rho := [vL "cells" cs, vL "rows" R, vS "sign" (sl [c]), vL "places" P, vI "falls" f, vO "seen" S, vO "found" Fo]
noncomputable def namesP : List String := ["cells", "rows", "sign", "places", "falls", "seen", "found"]
section
variable (cs R P S Fo : List D) (c : Nat) (f : Int) (t : Rho)
theorem other_P (x : String) (h : namesP.all (fun y => decide (x ≠ y)) = true) : (x = "cells") = False ∧ (x = "rows") = False ∧ (x = "sign") = False ∧ (x = "places") = False ∧ (x = "falls") = False ∧ (x = "seen") = False ∧ (x = "found") = False := by
  have g : ∀ y ∈ namesP, (x = y) = False := fun y hy => eq_false (of_decide_eq_true (List.all_eq_true.mp h y hy))
  exact ⟨g _ (.head _), g _ (.tail _ (.head _)), g _ (.tail _ (.tail _ (.head _))), g _ (.tail _ (.tail _ (.tail _ (.head _)))), g _ (.tail _ (.tail _ (.tail _ (.tail _ (.head _))))), g _ (.tail _ (.tail _ (.tail _ (.tail _ (.tail _ (.head _)))))), g _ (.tail _ (.tail _ (.tail _ (.tail _ (.tail _ (.tail _ (.head _))))))) ⟩
theorem gP (x : String) (h : namesP.all (fun y => decide (x ≠ y)) = true) : getV (rhoP cs R c P f S Fo ++ t) (Str.ofString x) = getV t (Str.ofString x) := by
  obtain ⟨h1, h2, h3, h4, h5, h6, h7⟩ := other_P x h
  simp only [rhoP, List.cons_append, List.nil_append, getV_val, getV_own, vL, vS, vI, vO, h1, h2, h3, h4, h5, h6, h7, if_false]
theorem pP (x : String) (h : namesP.all (fun y => decide (x ≠ y)) = true) (d : Cell) : put (rhoP cs R c P f S Fo ++ t) (Str.ofString x) d = rhoP cs R c P f S Fo ++ put t (Str.ofString x) d := by
  obtain ⟨h1, h2, h3, h4, h5, h6, h7⟩ := other_P x h
  simp only [rhoP, List.cons_append, List.nil_append, put_s, vL, vS, vI, vO, eq_comm, h1, h2, h3, h4, h5, h6, h7, if_false]
theorem gP_sign : getV (rhoP cs R c P f S Fo ++ t) (Str.ofString "sign") = some (.str (sl [c])) := by
  simp only [rhoP, List.cons_append, getV_val, vL, vS, String.reduceEq, if_true, if_false]
theorem gP_falls : getV (rhoP cs R c P f S Fo ++ t) (Str.ofString "falls") = some (.int f) := by
  simp only [rhoP, List.cons_append, getV_val, vL, vS, vI, String.reduceEq, if_true, if_false]
theorem lP_seen : (rhoP cs R c P f S Fo ++ t).lookup (Str.ofString "seen") = some (.own S) := by
  simp only [rhoP, List.cons_append, lookup_s, vL, vS, vI, vO, String.reduceEq, if_true, if_false]
theorem lP_found : (rhoP cs R c P f S Fo ++ t).lookup (Str.ofString "found") = some (.own Fo) := by
  simp only [rhoP, List.cons_append, lookup_s, vL, vS, vI, vO, String.reduceEq, if_true, if_false]
theorem pP_falls (i : Int) : put (rhoP cs R c P f S Fo ++ t) (Str.ofString "falls") (.val (.int i)) = rhoP cs R c P i S Fo ++ t := by
  simp only [rhoP, List.cons_append, put_s, vL, vS, vI, vO, String.reduceEq, if_true, if_false]
theorem pP_seen (ds : List D) : put (rhoP cs R c P f S Fo ++ t) (Str.ofString "seen") (.own ds) = rhoP cs R c P f ds Fo ++ t := by
  simp only [rhoP, List.cons_append, put_s, vL, vS, vI, vO, String.reduceEq, if_true, if_false]
theorem pP_found (ds : List D) : put (rhoP cs R c P f S Fo ++ t) (Str.ofString "found") (.own ds) = rhoP cs R c P f S ds ++ t := by
  simp only [rhoP, List.cons_append, put_s, vL, vS, vI, vO, String.reduceEq, if_true, if_false, List.nil_append]
end
section
variable (Φ : Fns) (cs R P S Fo : List D) (c : Nat) (f : Int)
theorem wL_9 : exs Φ PL nL ((bL.drop 9).take 1) [vL "cells" cs, vL "rows" R, vS "sign" (sl [c]), vL "places" P] = some (.next, rhoP cs R c P 0 [] [] ++ []) := by
  conv => lhs; arg 4; whnf
  simp only [exs_nil, exs_cons, andThen_next, andThen_brk, andThen_ret, ifS_true, ifS_false, ex_if, ex_pass, ex_break, retS_some, ex_ret, asgS_some, ex_asg, augS_some, ex_aug, appS_some, ex_app, forS_some, ex_for, ex_while, ev_const, ev_name, bin2_some, ev_bin, negO_some, ev_neg, ifE_true, ifE_false, ev_if, ev_list, ev_tuple, cons2_some, evs_nil, evs_cons, cmp2_some, evT_cmp, ev_cmp, truthO_some, evT_name, evT_bin, evT_and, evT_or, evT_not, andS_true, andS_false, orS_true, orS_false, evA_nil, evR_nil, evA_cons, evR_cons, ev_call, evT_call, slice4_some, ev_slice, evO_none, evO_some, idxO_some, ev_idx_name, ev_idx_const, ev_idx_bin, ev_idx_un, ev_comp, evI_name, evI_list, evI_slice, evI_range, rangeO_some, getV_val, getV_own, lookup_s, put_nil, put_s, freeze_miss, freeze0, own0, asg0, aug0, for0, eq_self, not_false_eq_true, not_true_eq_false, vI, vS, vB, vL, vO, bo_addI, bo_subI, bo_andI, cm_eq, cm_ne, cm_lt, cm_le, cm_gt, cm_ge, eq_int, eq_str, eq_bytes, tr_int, tr_bool, cd_int, cd_str, cd_bytes, cd_none, cd_bool, nocontains, String.reduceEq, if_true, if_false, Bool.false_eq_true, Option.map_some, ex_tup_call, ex_tup_disp, namesOf_nil, namesOf_name, putsO_some, puts_nil, puts_cons, tupV_some, tupD_some, evCO_some, evC_nil, evC_step, consC_some, List.map_cons, List.map_nil, methN_own, ev_meth_name, ev_meth_const, ev_meth_sub, ev_meth_call, callM_some, beq_self_eq_true, Bool.and_self, Bool.and_true, Nat.reduceLT, listO_s, tupO_s, List.length_cons, List.length_nil, Nat.reduceAdd, Nat.reduceLeDiff, methN_val, List.all_nil, List.all_cons, decide_true, decide_false, List.take_succ_cons, List.take_zero, List.nil_append, List.cons_append, rhoP, fL, bne_iff_ne, ne_eq, Nat.reduceEqDiff, cellE_own oL_seen, cellE_own oL_found, cellE_val oL_falls, ca8_bin, ca8_sub, ca7_sub, ca8_name, ca7_name, ca6_name, ca7_const, ca8_const, ca7_slice, ca8_list, ofs_beq, String.reduceBEq, Bool.false_and, Bool.and_false, tupD_some nL_d]
theorem wL_turn {pl e lo hi q x2 q4 cn : Int} {tl : List Nat} {mk hf qt : Str} {t : Rho} (ht : t = [] ∨ ∃ a b d e2 g, t = [vS "tail" a, vS "half" b, vI "low" d, vS "quarter" e2, vI "high" g])
    (hp3 : binop .Mod (.int pl) (.int 3) = some (.int e)) (hix : index (.list [.str (sl []), .str (sl [34]), .str (sl [34, 32, 34, 120])]) (.int e) = some (.str (sl tl)))
    (hM : binop .Mult (.str (sl [34])) (.int pl) = some (.str mk))
    (h1 : Φ (Str.ofString "_law_half") [.str mk, .str (sl [c]), .str (sl tl)] = some (.tuple [.str hf, .int lo]))
    (h2 : Φ (Str.ofString "_law_half") [.str hf, .str (sl [c]), .str (sl tl)] = some (.tuple [.str qt, .int hi]))
    (hl : builtin? (Str.ofString "len") [.str qt] = some (.int q)) (m2 : binop .Mult (.int 2) (.int hi) = some (.int x2)) (m4 : binop .Mult (.int 4) (.int q) = some (.int q4))
    (hc : callOwn (Str.ofString "count") S (some [.int (lo + x2)]) = some (.int cn)) (hS : S.length ≤ 1000000) (hF : Fo.length ≤ 1000000) :
    exs Φ PL nL (inner? bL 10) (rhoP cs R c P f S Fo ++ (vI "place" pl :: t)) = some (.next, rhoP cs R c P (f + (q - cn)) (S ++ [.int (lo + x2)]) (Fo ++ [.int (q4 + x2 + lo)]) ++ [vI "place" pl, vS "tail" (sl tl), vS "half" hf, vI "low" lo, vS "quarter" qt, vI "high" hi]) := by
  have hput : ∀ A B C E G : D, put (put (put (put (put t (Str.ofString "tail") (.val A)) (Str.ofString "half") (.val B)) (Str.ofString "low") (.val C)) (Str.ofString "quarter") (.val E)) (Str.ofString "high") (.val G) =
      [(Str.ofString "tail", .val A), (Str.ofString "half", .val B), (Str.ofString "low", .val C), (Str.ofString "quarter", .val E), (Str.ofString "high", .val G)] := by
    intro A B C E G
    rcases ht with rfl | ⟨a, b, d, e2, g, rfl⟩ <;> simp only [put_s, put_nil, String.reduceEq, if_true, if_false]
  conv => lhs; arg 4; whnf
  simp only [exs_nil, exs_cons, andThen_next, andThen_brk, andThen_ret, ifS_true, ifS_false, ex_if, ex_pass, ex_break, retS_some, ex_ret, asgS_some, ex_asg, augS_some, ex_aug, appS_some, ex_app, forS_some, ex_for, ex_while, ev_const, ev_name, bin2_some, ev_bin, negO_some, ev_neg, ifE_true, ifE_false, ev_if, ev_list, ev_tuple, cons2_some, evs_nil, evs_cons, cmp2_some, evT_cmp, ev_cmp, truthO_some, evT_name, evT_bin, evT_and, evT_or, evT_not, andS_true, andS_false, orS_true, orS_false, evA_nil, evR_nil, evA_cons, evR_cons, ev_call, evT_call, slice4_some, ev_slice, evO_none, evO_some, idxO_some, ev_idx_name, ev_idx_const, ev_idx_bin, ev_idx_un, ev_comp, evI_name, evI_list, evI_slice, evI_range, rangeO_some, getV_val, getV_own, lookup_s, put_nil, put_s, freeze_miss, freeze0, own0, asg0, aug0, for0, eq_self, not_false_eq_true, not_true_eq_false, vI, vS, vB, vL, vO, bo_addI, bo_subI, bo_andI, cm_eq, cm_ne, cm_lt, cm_le, cm_gt, cm_ge, eq_int, eq_str, eq_bytes, tr_int, tr_bool, cd_int, cd_str, cd_bytes, cd_none, cd_bool, nocontains, String.reduceEq, if_true, if_false, Bool.false_eq_true, Option.map_some, ex_tup_call, ex_tup_disp, namesOf_nil, namesOf_name, putsO_some, puts_nil, puts_cons, tupV_some, tupD_some, evCO_some, evC_nil, evC_step, consC_some, List.map_cons, List.map_nil, methN_own, ev_meth_name, ev_meth_const, ev_meth_sub, ev_meth_call, callM_some, beq_self_eq_true, Bool.and_self, Bool.and_true, Nat.reduceLT, listO_s, tupO_s, List.length_cons, List.length_nil, Nat.reduceAdd, Nat.reduceLeDiff, methN_val, List.all_nil, List.all_cons, decide_true, decide_false, List.take_succ_cons, List.take_zero, getV_put, hput, gP _ _ _ _ _ _ _ _ "place" (by decide), gP _ _ _ _ _ _ _ _ "tail" (by decide), gP _ _ _ _ _ _ _ _ "half" (by decide), gP _ _ _ _ _ _ _ _ "low" (by decide), gP _ _ _ _ _ _ _ _ "quarter" (by decide), gP _ _ _ _ _ _ _ _ "high" (by decide), pP _ _ _ _ _ _ _ _ "tail" (by decide), pP _ _ _ _ _ _ _ _ "half" (by decide), pP _ _ _ _ _ _ _ _ "low" (by decide), pP _ _ _ _ _ _ _ _ "quarter" (by decide), pP _ _ _ _ _ _ _ _ "high" (by decide), gP_sign, gP_falls, lP_seen, lP_found, pP_falls, pP_seen, pP_found, fL, bne_iff_ne, ne_eq, Nat.reduceEqDiff, q0, q34, qx, hp3, hix, asgS_some oL_tail nL_tail, hM, nL_fh, callF_user _ b_fh, h1, tupV_some nL_t1, h2, tupV_some nL_t2, nL_len, callF_bi _ b_len, hl, m2, m4, hc, augS_some oL_falls nL_falls, appS_some _ hS, appS_some _ hF]
end
noncomputable def tailsL : List (List Nat) := [[], [34], [34, 32, 34, 120]]
theorem tail_at (p : Nat) : ∃ tl, scan tl = [] ∧ tl.length ≤ 10 ∧ index (.list [.str (sl []), .str (sl [34]), .str (sl [34, 32, 34, 120])]) (.int ((p % 3 : Nat) : Int)) = some (.str (sl tl)) := by
  have h : p % 3 = 0 ∨ p % 3 = 1 ∨ p % 3 = 2 := by omega
  have hc : ([.str (sl []), .str (sl [34]), .str (sl [34, 32, 34, 120])] : List D).length ≤ cap := le_cap (by simp)
  rcases h with h | h | h <;> rw [h]
  · exact ⟨[], rfl, by simp, indexL rfl hc⟩
  · exact ⟨[34], by rw [scan.eq_3 [] (fun r' e => by cases e)], by simp, indexL rfl hc⟩
  · exact ⟨[34, 32, 34, 120], scan_q (by decide), by simp, indexL rfl hc⟩
noncomputable def halfOk (Φ : Fns) (c : Nat) : Prop := ∀ (m : Nat) (tl : List Nat), m ≤ 100 → scan tl = [] → tl.length ≤ 10 → Φ (Str.ofString "_law_half") [.str (sl (List.replicate m 34)), .str (sl [c]), .str (sl tl)] = some (.tuple [.str (sl (List.replicate (m / 2) 34)), .int ((m % 2 : Nat) : Int)])
theorem mulI_nat (a b : Nat) (ha : a ≤ 1000) (hb : b ≤ 1000) : binop .Mult (.int (a : Int)) (.int (b : Int)) = some (.int ((a * b : Nat) : Int)) := by
  rw [bo_mulI (small_of (by omega) (by omega)) (small_of (by omega) (by omega)), Int.natCast_mul]
theorem intsD_app (a b : List Nat) : intsD (a ++ b) = intsD a ++ intsD b := List.map_append
theorem wL_loop10 {Φ : Fns} {c : Nat} (hH : halfOk Φ c) (cs R P : List D) : ∀ (ps sn fo : List Nat) (f : Int) (t : Rho), (∀ p ∈ ps, p ≤ 90) → sn.length + ps.length ≤ 100 → fo.length + ps.length ≤ 100 → (t = [] ∨ ∃ p t1, t = vI "place" p :: t1 ∧ ∃ a b d e2 g, t1 = [vS "tail" a, vS "half" b, vI "low" d, vS "quarter" e2, vI "high" g]) →
    ∃ t', loopF (Str.ofString "place") (exs Φ PL nL (inner? bL 10)) (intsD ps) (rhoP cs R c P f (intsD sn) (intsD fo) ++ t) = some (.next, rhoP cs R c P (f + fallsF sn ps) (intsD (sn ++ ps.map (· % 4))) (intsD (fo ++ ps)) ++ t') ∧ (t' = [] ∨ ∃ p a b d e2 g, t' = [vI "place" p, vS "tail" a, vS "half" b, vI "low" d, vS "quarter" e2, vI "high" g])
  | [], sn, fo, f, t, _, _, _, ht => by
    refine ⟨t, ?_, ?_⟩
    · rw [fallsF, Int.add_zero, List.map_nil, List.append_nil, List.append_nil]; rfl
    · rcases ht with h | ⟨p, t1, rfl, a, b, d, e2, g, rfl⟩
      · exact .inl h
      · exact .inr ⟨p, a, b, d, e2, g, rfl⟩
  | p :: ps, sn, fo, f, t, hp, h1, h2, ht => by
    rw [List.length_cons] at h1 h2
    obtain ⟨t1, ht1, hput⟩ : ∃ t1, (t1 = [] ∨ ∃ a b d e2 g, t1 = [vS "tail" a, vS "half" b, vI "low" d, vS "quarter" e2, vI "high" g]) ∧ put (rhoP cs R c P f (intsD sn) (intsD fo) ++ t) (Str.ofString "place") (.val (.int (p : Int))) = rhoP cs R c P f (intsD sn) (intsD fo) ++ (vI "place" (p : Int) :: t1) := by
      rcases ht with rfl | ⟨p', t1, rfl, h⟩
      · exact ⟨[], .inl rfl, by simp only [rhoP, List.cons_append, List.nil_append, put_s, put_nil, String.reduceEq, if_true, if_false]⟩
      · exact ⟨t1, .inr h, by simp only [rhoP, List.cons_append, List.nil_append, put_s, put_nil, String.reduceEq, if_true, if_false]⟩
    have hp9 := hp p (.head _)
    obtain ⟨tl, g1, g2, g3⟩ := tail_at p
    have hp3 := mod_nat p 3 (by decide)
    have hM : binop .Mult (.str (sl [34])) (.int (p : Int)) = some (.str (sl (List.replicate p 34))) := by
      rw [mulS (by omega) (by omega), Int.toNat_natCast]
    have k1 := hH p tl (by omega) g1 g2
    have k2 := hH (p / 2) tl (by omega) g1 g2
    have kl : builtin? (Str.ofString "len") [.str (sl (List.replicate (p / 2 / 2) 34))] = some (.int ((p / 4 : Nat) : Int)) := by
      rw [lenS (by rw [List.length_replicate]; exact le_cap (by omega)), List.length_replicate, show p / 2 / 2 = p / 4 by omega]
    have m2 := mulI_nat 2 (p / 2 % 2) (by omega) (by omega)
    have m4 := mulI_nat 4 (p / 4) (by omega) (by omega)
    have hr : ((p % 2 : Nat) : Int) + ((2 * (p / 2 % 2) : Nat) : Int) = ((p % 4 : Nat) : Int) := by omega
    have hc := count_own sn (p % 4) (by omega)
    rw [← hr] at hc
    have turn := wL_turn Φ cs R P (intsD sn) (intsD fo) c f ht1 hp3 g3 hM k1 k2 kl m2 m4 hc (by rw [intsD_len]; omega) (by rw [intsD_len]; omega)
    rw [hr, show ((4 * (p / 4) : Nat) : Int) + ((2 * (p / 2 % 2) : Nat) : Int) + ((p % 2 : Nat) : Int) = ((p : Nat) : Int) by omega] at turn
    have e0 : intsD (p :: ps) = .int (p : Int) :: intsD ps := rfl
    rw [e0, loopF, hput, turn, turn_next]
    obtain ⟨t', hl, ht'⟩ := wL_loop10 hH cs R P ps (sn ++ [p % 4]) (fo ++ [p]) (f + (((p / 4 : Nat) : Int) - ((sn.count (p % 4) : Nat) : Int))) (vI "place" (p : Int) :: [vS "tail" (sl tl), vS "half" (sl (List.replicate (p / 2) 34)), vI "low" ((p % 2 : Nat) : Int), vS "quarter" (sl (List.replicate (p / 2 / 2) 34)), vI "high" ((p / 2 % 2 : Nat) : Int)]) (fun x h => hp x (.tail _ h)) (by rw [List.length_append, List.length_singleton]; omega) (by rw [List.length_append, List.length_singleton]; omega) (.inr ⟨_, _, rfl, _, _, _, _, _, rfl⟩)
    refine ⟨t', ?_, ht'⟩
    rw [intsD_app, intsD_app, List.append_assoc, List.append_assoc] at hl
    rw [fallsF, List.map_cons, show f + (((p / 4 : Nat) : Int) - (sn.count (p % 4) : Nat) + fallsF (sn ++ [p % 4]) ps) = f + (((p / 4 : Nat) : Int) - ((sn.count (p % 4) : Nat) : Int)) + fallsF (sn ++ [p % 4]) ps by omega]
    exact hl
theorem wL_chk (Φ : Fns) (cs R : List D) (c : Nat) (ps : List Nat) (f : Int) (S : List D) (t : Rho) (hG : Φ (Str.ofString "_law_hooks") [.list R] = some (.int f)) :
    evT Φ (tst? bL 11) nL ([vL "cells" cs, vL "rows" R, vS "sign" (sl [c]), vL "places" (intsD ps), vI "falls" f, vO "seen" S, vL "found" (intsD ps)] ++ t) = some false := by
  have h := eq_ints ps ps
  rw [decide_eq_true rfl] at h
  conv => lhs; arg 2; whnf
  simp only [exs_nil, exs_cons, andThen_next, andThen_brk, andThen_ret, ifS_true, ifS_false, ex_if, ex_pass, ex_break, retS_some, ex_ret, asgS_some, ex_asg, augS_some, ex_aug, appS_some, ex_app, forS_some, ex_for, ex_while, ev_const, ev_name, bin2_some, ev_bin, negO_some, ev_neg, ifE_true, ifE_false, ev_if, ev_list, ev_tuple, cons2_some, evs_nil, evs_cons, cmp2_some, evT_cmp, ev_cmp, truthO_some, evT_name, evT_bin, evT_and, evT_or, evT_not, andS_true, andS_false, orS_true, orS_false, evA_nil, evR_nil, evA_cons, evR_cons, ev_call, evT_call, slice4_some, ev_slice, evO_none, evO_some, idxO_some, ev_idx_name, ev_idx_const, ev_idx_bin, ev_idx_un, ev_comp, evI_name, evI_list, evI_slice, evI_range, rangeO_some, getV_val, getV_own, lookup_s, put_nil, put_s, freeze_miss, freeze0, own0, asg0, aug0, for0, eq_self, not_false_eq_true, not_true_eq_false, vI, vS, vB, vL, vO, bo_addI, bo_subI, bo_andI, cm_eq, cm_ne, cm_lt, cm_le, cm_gt, cm_ge, eq_int, eq_str, eq_bytes, tr_int, tr_bool, cd_int, cd_str, cd_bytes, cd_none, cd_bool, nocontains, String.reduceEq, if_true, if_false, Bool.false_eq_true, Option.map_some, ex_tup_call, ex_tup_disp, namesOf_nil, namesOf_name, putsO_some, puts_nil, puts_cons, tupV_some, tupD_some, evCO_some, evC_nil, evC_step, consC_some, List.map_cons, List.map_nil, methN_own, ev_meth_name, ev_meth_const, ev_meth_sub, ev_meth_call, callM_some, beq_self_eq_true, Bool.and_self, Bool.and_true, Nat.reduceLT, listO_s, tupO_s, List.length_cons, List.length_nil, Nat.reduceAdd, Nat.reduceLeDiff, methN_val, List.all_nil, List.all_cons, decide_true, decide_false, List.take_succ_cons, List.take_zero, List.nil_append, List.cons_append, nL_fg, callF_user _ b_fg, hG, h, Bool.not_true]
theorem run_9 {Φ : Fns} {c : Nat} (hH : halfOk Φ c) (cs R : List D) (ps : List Nat) (hp : ∀ p ∈ ps, p ≤ 90) (hl : ps.length ≤ 100) (hG : Φ (Str.ofString "_law_hooks") [.list R] = some (.int (fallsF [] ps))) :
    ∃ ρ', exs Φ PL nL ((bL.drop 9).take 3) [vL "cells" cs, vL "rows" R, vS "sign" (sl [c]), vL "places" (intsD ps)] = some (.next, [vL "cells" cs, vL "rows" R, vS "sign" (sl [c])] ++ ρ') := by
  have hs : (bL.drop 9).take 3 = (bL.drop 9).take 1 ++ [.For (.Name (Str.ofString "place") (tpos? bL 10)) (tst? bL 10) (inner? bL 10) [] (pos? bL 10), .If (tst? bL 11) (inner? bL 11) [] (pos? bL 11)] := rfl
  have e10 : (pos? bL 10).line = 102 := by decide +kernel
  have e11 : (pos? bL 11).line = 109 := by decide +kernel
  have hit : evI Φ (tst? bL 10) nL (rhoP cs R c (intsD ps) 0 [] [] ++ []) = some (intsD ps) := by
    conv => lhs; arg 2; whnf
    simp only [exs_nil, exs_cons, andThen_next, andThen_brk, andThen_ret, ifS_true, ifS_false, ex_if, ex_pass, ex_break, retS_some, ex_ret, asgS_some, ex_asg, augS_some, ex_aug, appS_some, ex_app, forS_some, ex_for, ex_while, ev_const, ev_name, bin2_some, ev_bin, negO_some, ev_neg, ifE_true, ifE_false, ev_if, ev_list, ev_tuple, cons2_some, evs_nil, evs_cons, cmp2_some, evT_cmp, ev_cmp, truthO_some, evT_name, evT_bin, evT_and, evT_or, evT_not, andS_true, andS_false, orS_true, orS_false, evA_nil, evR_nil, evA_cons, evR_cons, ev_call, evT_call, slice4_some, ev_slice, evO_none, evO_some, idxO_some, ev_idx_name, ev_idx_const, ev_idx_bin, ev_idx_un, ev_comp, evI_name, evI_list, evI_slice, evI_range, rangeO_some, getV_val, getV_own, lookup_s, put_nil, put_s, freeze_miss, freeze0, own0, asg0, aug0, for0, eq_self, not_false_eq_true, not_true_eq_false, vI, vS, vB, vL, vO, bo_addI, bo_subI, bo_andI, cm_eq, cm_ne, cm_lt, cm_le, cm_gt, cm_ge, eq_int, eq_str, eq_bytes, tr_int, tr_bool, cd_int, cd_str, cd_bytes, cd_none, cd_bool, nocontains, String.reduceEq, if_true, if_false, Bool.false_eq_true, Option.map_some, ex_tup_call, ex_tup_disp, namesOf_nil, namesOf_name, putsO_some, puts_nil, puts_cons, tupV_some, tupD_some, evCO_some, evC_nil, evC_step, consC_some, List.map_cons, List.map_nil, methN_own, ev_meth_name, ev_meth_const, ev_meth_sub, ev_meth_call, callM_some, beq_self_eq_true, Bool.and_self, Bool.and_true, Nat.reduceLT, listO_s, tupO_s, List.length_cons, List.length_nil, Nat.reduceAdd, Nat.reduceLeDiff, methN_val, List.all_nil, List.all_cons, decide_true, decide_false, List.take_succ_cons, List.take_zero, List.nil_append, List.cons_append, rhoP]
    exact iterN_list (by rw [intsD_len]; exact le_cap (by omega))
  rw [hs, exs_app, wL_9, andThen_next, exs_cons, ex_for, fL (by rw [e10]; rfl), hit, forS_some oL_place nL_place (intsD_imm ps)]
  obtain ⟨t', hlp, ht'⟩ := wL_loop10 hH cs R (intsD ps) ps [] [] 0 [] hp (by rw [List.length_nil]; omega) (by rw [List.length_nil]; omega) (.inl rfl)
  rw [show intsD [] = [] from rfl, Int.zero_add, List.nil_append, List.nil_append] at hlp
  rw [hlp, andThen_next, exs_cons, ex_if, e11]
  have hfz : ∃ t2, freeze PL 109 (rhoP cs R c (intsD ps) (fallsF [] ps) (intsD (ps.map (· % 4))) (intsD ps) ++ t') = [vL "cells" cs, vL "rows" R, vS "sign" (sl [c]), vL "places" (intsD ps), vI "falls" (fallsF [] ps), vO "seen" (intsD (ps.map (· % 4))), vL "found" (intsD ps)] ++ t2 := by
    generalize intsD ps = P
    generalize intsD (ps.map (· % 4)) = S
    generalize fallsF [] ps = f
    generalize sl [c] = s1
    exact ⟨freeze PL 109 t', by kernel_rfl⟩
  obtain ⟨t2, hfz⟩ := hfz
  rw [hfz, wL_chk Φ cs R c ps _ _ t2 hG, ifS_false, exs_nil, andThen_next, exs_nil]
  exact ⟨_, rfl⟩
-- the rest
theorem qsq : Str.ofString " \"" = sl [32, 34] := by decide +kernel
theorem wL_rest (Φ : Fns) (cs R : List D) (c n : Nat) (hlen : builtin? (Str.ofString "len") [.list R] = some (.int (n : Int))) (hn : n ≤ 100) :
    exs Φ ({} : Pol) nL ((bL.drop 12).take 1) [vL "cells" cs, vL "rows" R, vS "sign" (sl [c])] = some (.next, [vL "cells" cs, vL "rows" R, vS "sign" (sl [c]), vS "rest" (sl (32 :: 34 :: (List.replicate n 34 ++ [c])))]) := by
  have hM : binop .Mult (.str (sl [34])) (.int (n : Int)) = some (.str (sl (List.replicate n 34))) := by
    rw [mulS (by omega) (by omega), Int.toNat_natCast]
  have a1 : binop .Add (.str (sl [32, 34])) (.str (sl (List.replicate n 34))) = some (.str (sl (32 :: 34 :: List.replicate n 34))) := by
    rw [addS (le_cap (by rw [List.length_replicate]; simp; omega))]; rfl
  have a2 : binop .Add (.str (sl (32 :: 34 :: List.replicate n 34))) (.str (sl [c])) = some (.str (sl (32 :: 34 :: (List.replicate n 34 ++ [c])))) := by
    rw [addS (le_cap (by rw [List.length_cons, List.length_cons, List.length_replicate]; simp; omega))]; rfl
  conv => lhs; arg 4; whnf
  simp only [exs_nil, exs_cons, andThen_next, andThen_brk, andThen_ret, ifS_true, ifS_false, ex_if, ex_pass, ex_break, retS_some, ex_ret, asgS_some, ex_asg, augS_some, ex_aug, appS_some, ex_app, forS_some, ex_for, ex_while, ev_const, ev_name, bin2_some, ev_bin, negO_some, ev_neg, ifE_true, ifE_false, ev_if, ev_list, ev_tuple, cons2_some, evs_nil, evs_cons, cmp2_some, evT_cmp, ev_cmp, truthO_some, evT_name, evT_bin, evT_and, evT_or, evT_not, andS_true, andS_false, orS_true, orS_false, evA_nil, evR_nil, evA_cons, evR_cons, ev_call, evT_call, slice4_some, ev_slice, evO_none, evO_some, idxO_some, ev_idx_name, ev_idx_const, ev_idx_bin, ev_idx_un, ev_comp, evI_name, evI_list, evI_slice, evI_range, rangeO_some, getV_val, getV_own, lookup_s, put_nil, put_s, freeze_miss, freeze0, own0, asg0, aug0, for0, eq_self, not_false_eq_true, not_true_eq_false, vI, vS, vB, vL, vO, bo_addI, bo_subI, bo_andI, cm_eq, cm_ne, cm_lt, cm_le, cm_gt, cm_ge, eq_int, eq_str, eq_bytes, tr_int, tr_bool, cd_int, cd_str, cd_bytes, cd_none, cd_bool, nocontains, String.reduceEq, if_true, if_false, Bool.false_eq_true, Option.map_some, ex_tup_call, ex_tup_disp, namesOf_nil, namesOf_name, putsO_some, puts_nil, puts_cons, tupV_some, tupD_some, evCO_some, evC_nil, evC_step, consC_some, List.map_cons, List.map_nil, methN_own, ev_meth_name, ev_meth_const, ev_meth_sub, ev_meth_call, callM_some, beq_self_eq_true, Bool.and_self, Bool.and_true, Nat.reduceLT, listO_s, tupO_s, List.length_cons, List.length_nil, Nat.reduceAdd, Nat.reduceLeDiff, methN_val, List.all_nil, List.all_cons, decide_true, decide_false, List.take_succ_cons, List.take_zero, List.nil_append, List.cons_append, qsq, q34, nL_len, callF_bi _ b_len, hlen, hM, a1, a2, nL_rest]
theorem z1 : Str.ofString "257" = sl [50, 53, 55] := by decide +kernel
theorem z2 : Str.ofString "257 x" = sl [50, 53, 55, 32, 120] := by decide +kernel
theorem wL_last (Φ : Fns) (c n : Nat) (hn : n ≤ 100) (h1 : Φ (Str.ofString "parse257") [.str (sl (50 :: 53 :: 55 :: 34 :: (List.replicate n 34 ++ [c])))] = some (.str (sl []))) (h2 : Φ (Str.ofString "parse257") [.str (sl (50 :: 53 :: 55 :: 32 :: 120 :: 34 :: (List.replicate n 34 ++ [c])))] = some (.str (sl []))) :
    exs Φ ({} : Pol) nL (bL.drop 14) [vS "rest" (sl (32 :: 34 :: (List.replicate n 34 ++ [c])))] = some (.ret (.bool true), [vS "rest" (sl (32 :: 34 :: (List.replicate n 34 ++ [c])))]) := by
  have hl : (List.replicate n 34 ++ [c]).length ≤ 101 := by rw [List.length_append, List.length_replicate]; simp; omega
  generalize List.replicate n 34 ++ [c] = y at *
  have hs : slice (.str (sl (32 :: 34 :: y))) (.int 1) .none .none = some (.str (sl (34 :: y))) := by
    rw [sliceS (pt_int (by decide) (by decide)) pt_none (le_cap (by simp; omega)), show (1 : Int) = ((1 : Nat) : Int) from rfl, pk_drop]; rfl
  have a1 : binop .Add (.str (sl [50, 53, 55])) (.str (sl (34 :: y))) = some (.str (sl (50 :: 53 :: 55 :: 34 :: y))) := by
    rw [addS (le_cap (by simp; omega))]; rfl
  have a2 : binop .Add (.str (sl [50, 53, 55, 32, 120])) (.str (sl (34 :: y))) = some (.str (sl (50 :: 53 :: 55 :: 32 :: 120 :: 34 :: y))) := by
    rw [addS (le_cap (by simp; omega))]; rfl
  have a3 : binop .Add (.str (sl [])) (.str (sl [])) = some (.str (sl [])) := addS (le_cap (by simp))
  conv => lhs; arg 4; whnf
  simp only [exs_nil, exs_cons, andThen_next, andThen_brk, andThen_ret, ifS_true, ifS_false, ex_if, ex_pass, ex_break, retS_some, ex_ret, asgS_some, ex_asg, augS_some, ex_aug, appS_some, ex_app, forS_some, ex_for, ex_while, ev_const, ev_name, bin2_some, ev_bin, negO_some, ev_neg, ifE_true, ifE_false, ev_if, ev_list, ev_tuple, cons2_some, evs_nil, evs_cons, cmp2_some, evT_cmp, ev_cmp, truthO_some, evT_name, evT_bin, evT_and, evT_or, evT_not, andS_true, andS_false, orS_true, orS_false, evA_nil, evR_nil, evA_cons, evR_cons, ev_call, evT_call, slice4_some, ev_slice, evO_none, evO_some, idxO_some, ev_idx_name, ev_idx_const, ev_idx_bin, ev_idx_un, ev_comp, evI_name, evI_list, evI_slice, evI_range, rangeO_some, getV_val, getV_own, lookup_s, put_nil, put_s, freeze_miss, freeze0, own0, asg0, aug0, for0, eq_self, not_false_eq_true, not_true_eq_false, vI, vS, vB, vL, vO, bo_addI, bo_subI, bo_andI, cm_eq, cm_ne, cm_lt, cm_le, cm_gt, cm_ge, eq_int, eq_str, eq_bytes, tr_int, tr_bool, cd_int, cd_str, cd_bytes, cd_none, cd_bool, nocontains, String.reduceEq, if_true, if_false, Bool.false_eq_true, Option.map_some, ex_tup_call, ex_tup_disp, namesOf_nil, namesOf_name, putsO_some, puts_nil, puts_cons, tupV_some, tupD_some, evCO_some, evC_nil, evC_step, consC_some, List.map_cons, List.map_nil, methN_own, ev_meth_name, ev_meth_const, ev_meth_sub, ev_meth_call, callM_some, beq_self_eq_true, Bool.and_self, Bool.and_true, Nat.reduceLT, listO_s, tupO_s, List.length_cons, List.length_nil, Nat.reduceAdd, Nat.reduceLeDiff, methN_val, List.all_nil, List.all_cons, decide_true, decide_false, List.take_succ_cons, List.take_zero, List.nil_append, List.cons_append, z1, z2, q0, hs, a1, a2, a3, nL_fp, callF_user _ b_p, h1, h2]
/-- what is refused -/
noncomputable def argsR : List Expr := match (bL[13]? : Option Stmt) with
  | some (Stmt.If (Expr.UnaryOp _ (Expr.Call _ as _ _) _) _ _ _) => as
  | _ => []
theorem wL_args (Φ : Fns) (C4 a b : Int) (dg : List Nat) (rest : Str) (cs : List D) (ρ : Rho) (hcs : getV ρ (Str.ofString "cells") = some (.list cs)) (hr : getV ρ (Str.ofString "rest") = some (.str rest)) (h4 : index (.list cs) (.int 4) = some (.int C4))
    (h1 : binop .Mod (.int C4) (.int 999) = some (.int a)) (h2 : binop .Mod (.int (258 + a)) (.int 1000) = some (.int b)) (h3 : builtin? (Str.ofString "str") [.int b] = some (.str (sl dg))) :
    evs Φ argsR nL ρ = some [.str (sl dg), .str rest] := by
  conv => lhs; arg 2; whnf
  simp only [exs_nil, exs_cons, andThen_next, andThen_brk, andThen_ret, ifS_true, ifS_false, ex_if, ex_pass, ex_break, retS_some, ex_ret, asgS_some, ex_asg, augS_some, ex_aug, appS_some, ex_app, forS_some, ex_for, ex_while, ev_const, ev_name, bin2_some, ev_bin, negO_some, ev_neg, ifE_true, ifE_false, ev_if, ev_list, ev_tuple, cons2_some, evs_nil, evs_cons, cmp2_some, evT_cmp, ev_cmp, truthO_some, evT_name, evT_bin, evT_and, evT_or, evT_not, andS_true, andS_false, orS_true, orS_false, evA_nil, evR_nil, evA_cons, evR_cons, ev_call, evT_call, slice4_some, ev_slice, evO_none, evO_some, idxO_some, ev_idx_name, ev_idx_const, ev_idx_bin, ev_idx_un, ev_comp, evI_name, evI_list, evI_slice, evI_range, rangeO_some, getV_val, getV_own, lookup_s, put_nil, put_s, freeze_miss, freeze0, own0, asg0, aug0, for0, eq_self, not_false_eq_true, not_true_eq_false, vI, vS, vB, vL, vO, bo_addI, bo_subI, bo_andI, cm_eq, cm_ne, cm_lt, cm_le, cm_gt, cm_ge, eq_int, eq_str, eq_bytes, tr_int, tr_bool, cd_int, cd_str, cd_bytes, cd_none, cd_bool, nocontains, String.reduceEq, if_true, if_false, Bool.false_eq_true, Option.map_some, ex_tup_call, ex_tup_disp, namesOf_nil, namesOf_name, putsO_some, puts_nil, puts_cons, tupV_some, tupD_some, evCO_some, evC_nil, evC_step, consC_some, List.map_cons, List.map_nil, methN_own, ev_meth_name, ev_meth_const, ev_meth_sub, ev_meth_call, callM_some, beq_self_eq_true, Bool.and_self, Bool.and_true, Nat.reduceLT, listO_s, tupO_s, List.length_cons, List.length_nil, Nat.reduceAdd, Nat.reduceLeDiff, methN_val, List.all_nil, List.all_cons, decide_true, decide_false, List.take_succ_cons, List.take_zero, List.nil_append, List.cons_append, hcs, hr, h4, h1, h2, nL_str, callF_bi _ b_str, h3]
end Mine
end
section
open PySem
set_option maxRecDepth 100000
set_option Elab.async false
set_option linter.unusedSimpArgs false
set_option linter.unusedVariables false
set_option maxHeartbeats 4000000
namespace Mine
noncomputable def noF : Fns := fun _ _ => none
noncomputable def Phi1 : Fns := fun f =>
  if f = Str.ofString "parse257" then runF noF {} p1 6 [Str.ofString "resp"]
  else if f = Str.ofString "Int2AP" then runF noF {} p1 2 [Str.ofString "num"]
  else if f = Str.ofString "_law_cells" then runF noF {} p1 13 [Str.ofString "script"]
  else if f = Str.ofString "_law_hooks" then runF noF {} p1 18 [Str.ofString "rows"]
  else if f = Str.ofString "quotedata" then quoteF
  else fun _ => none
noncomputable def Phi2 : Fns := fun f =>
  if f = Str.ofString "_law_sent" then runF Phi1 {} p1 14 [Str.ofString "rows", Str.ofString "cell"]
  else if f = Str.ofString "_law_half" then runF Phi1 {} p1 17 [Str.ofString "marks", Str.ofString "sign", Str.ofString "tail"]
  else Phi1 f
noncomputable def Phi3 : Fns := fun f =>
  if f = Str.ofString "_law_rows" then runF Phi2 {} p1 15 [Str.ofString "word", Str.ofString "cell"]
  else if f = Str.ofString "_law_climbed" then runF Phi2 {} p1 16 [Str.ofString "rows", Str.ofString "k", Str.ofString "cell"]
  else Phi2 f
theorem phi1_P : Phi1 (Str.ofString "parse257") = runF noF {} p1 6 [Str.ofString "resp"] := by simp only [Phi1, ofs_eq, String.reduceEq, if_true, if_false]
theorem phi1_I : Phi1 (Str.ofString "Int2AP") = runF noF {} p1 2 [Str.ofString "num"] := by simp only [Phi1, ofs_eq, String.reduceEq, if_true, if_false]
theorem phi1_C : Phi1 (Str.ofString "_law_cells") = runF noF {} p1 13 [Str.ofString "script"] := by simp only [Phi1, ofs_eq, String.reduceEq, if_true, if_false]
theorem phi1_G : Phi1 (Str.ofString "_law_hooks") = runF noF {} p1 18 [Str.ofString "rows"] := by simp only [Phi1, ofs_eq, String.reduceEq, if_true, if_false]
theorem phi1_Q : Phi1 (Str.ofString "quotedata") = quoteF := by simp only [Phi1, ofs_eq, String.reduceEq, if_true, if_false]
theorem phi2_S : Phi2 (Str.ofString "_law_sent") = runF Phi1 {} p1 14 [Str.ofString "rows", Str.ofString "cell"] := by simp only [Phi2, ofs_eq, String.reduceEq, if_true, if_false]
theorem phi2_H : Phi2 (Str.ofString "_law_half") = runF Phi1 {} p1 17 [Str.ofString "marks", Str.ofString "sign", Str.ofString "tail"] := by simp only [Phi2, ofs_eq, String.reduceEq, if_true, if_false]
theorem phi2_1 (x : String) (h1 : x ≠ "_law_sent") (h2 : x ≠ "_law_half") : Phi2 (Str.ofString x) = Phi1 (Str.ofString x) := by simp only [Phi2, ofs_eq, h1, h2, if_false]
theorem phi3_W : Phi3 (Str.ofString "_law_rows") = runF Phi2 {} p1 15 [Str.ofString "word", Str.ofString "cell"] := by simp only [Phi3, ofs_eq, String.reduceEq, if_true, if_false]
theorem phi3_K : Phi3 (Str.ofString "_law_climbed") = runF Phi2 {} p1 16 [Str.ofString "rows", Str.ofString "k", Str.ofString "cell"] := by simp only [Phi3, ofs_eq, String.reduceEq, if_true, if_false]
theorem phi3_2 (x : String) (h1 : x ≠ "_law_rows") (h2 : x ≠ "_law_climbed") : Phi3 (Str.ofString x) = Phi2 (Str.ofString x) := by simp only [Phi3, ofs_eq, h1, h2, if_false]
theorem parse1 : parseOk Phi1 := fun l h => by
  obtain ⟨ρ', e⟩ := run_P noF l h
  rw [phi1_P]; exact runF_some rfl e
theorem parse30 (a b : Nat) (l : List Nat) (h : l.length ≤ 99000) (hne : [a, b] ≠ [32, 34]) : Phi3 (Str.ofString "parse257") [.str (sl (50 :: 53 :: 55 :: a :: b :: l))] = some (.str (sl [])) := by
  obtain ⟨ρ', e⟩ := run_P0 noF a b l h hne
  rw [phi3_2 _ (by decide) (by decide), phi2_1 _ (by decide) (by decide), phi1_P]; exact runF_some rfl e
theorem int3 (i : Int) (h : i.natAbs < 16 ^ 40) : Phi3 (Str.ofString "Int2AP") [.int i] = some (.bytes (hexF 40 i.natAbs)) := by
  obtain ⟨ρ', e⟩ := run_I noF i h
  rw [phi3_2 _ (by decide) (by decide), phi2_1 _ (by decide) (by decide), phi1_I]; exact runF_some rfl e
theorem cells3 (is : List Int) (h : is.length ≤ 63) : Phi3 (Str.ofString "_law_cells") [.list (is.map .int)] = some (.list [.int (cellC is 0), .int (cellC is 1), .int (cellC is 2), .int (cellC is 3), .int (cellC is 4)]) := by
  obtain ⟨ρ', e⟩ := run_C noF is h
  rw [phi3_2 _ (by decide) (by decide), phi2_1 _ (by decide) (by decide), phi1_C]; exact runF_some rfl e
theorem hooks3 (M : List Nat) (hM : M.length ≤ 99) (hx : ∀ x ∈ M, x ≤ 290) : Phi3 (Str.ofString "_law_hooks") [.list (rowsM M)] = some (.int (hooksF M : Nat)) := by
  obtain ⟨ρ', e⟩ := run_G noF M hM hx
  rw [phi3_2 _ (by decide) (by decide), phi2_1 _ (by decide) (by decide), phi1_G]; exact runF_some rfl e
theorem half3 (c : Nat) (hc : c ≠ 34) : halfOk Phi3 c := fun m tl hm ht htl => by
  obtain ⟨ρ', e⟩ := run_H parse1 m c tl hm hc ht htl
  rw [phi3_2 _ (by decide) (by decide), phi2_H]; exact runF_some rfl e
theorem dots_len : ∀ (b : Bool) (l : List Nat), (dotS b l).length ≤ 2 * l.length
  | b, [] => by simp [dotS]
  | b, c :: r => by
    rw [dotS]
    have h1 := dots_len false r
    have h2 := dots_len (c == 10) r
    split <;> (simp only [List.length_cons]; omega)
theorem quoteF_sl (l : List Nat) (h : l.length ≤ 40000) : quoteF [.str (sl l)] = some (.str (sl (dotS true (nlS l)))) := by
  have hs : (sl l).cps.size = l.length := by simp [sl]
  have e : quoteF [.str (sl l)] = if (sl l).cps.size ≤ 40000 then some (.str (sl (dotS true (nlS (sl l).cps.toList)))) else none := rfl
  rw [e, hs, if_pos h, sl_cps]
theorem last_pt (c : Nat) (h : c ∈ lastL) : c ≠ 10 ∧ pt [13, 10] 0 (dotS true (nlS [c, 46])) = [[c, 46]] := by
  have hc : c ≠ 10 ∧ c ≠ 13 ∧ c ≠ 46 := by
    simp only [lastL, List.mem_cons, List.not_mem_nil, or_false] at h
    omega
  have hn : noNl [c, 46] := fun x hx => by
    simp only [List.mem_cons, List.not_mem_nil, or_false] at hx
    omega
  have e1 := nls_row [c, 46] [] hn
  rw [List.append_nil, show nlS [] = [] from rfl, List.append_nil] at e1
  refine ⟨hc.1, ?_⟩
  rw [e1, dotS, if_neg (fun q => hc.2.2 q.2), dotS, if_neg (by rw [show (c == 10) = false by simpa using hc.1]; simp), dotS]
  rw [pt, if_neg (fun e => hc.2.1 (by simpa using congrArg List.head? e)), pt, if_neg (by simp), pt]
  rfl
theorem stuff_dot (m : Nat) : stuff (dotR m) = dotR (m + 1) := by
  unfold stuff dotR
  rw [if_pos (by rw [List.replicate_succ]; rfl), ← List.replicate_succ]
theorem sent2 : sentOk Phi2 := fun M cell hl hm => by
  obtain ⟨c, hc, hi⟩ := last_at cell
  obtain ⟨hc1, hpt⟩ := last_pt c hc
  have hrl : ∀ r ∈ M.map dotR, rowOk r ∧ r.length ≤ 100 := by
    intro r hr
    obtain ⟨m, hmm, rfl⟩ := List.mem_map.mp hr
    have := hm m hmm
    refine ⟨⟨fun x hx => ?_, fun e => ?_⟩, ?_⟩
    · rw [List.eq_of_mem_replicate hx]; decide
    · have := congrArg List.length e
      unfold dotR at this
      rw [List.length_replicate] at this
      cases this
    · unfold dotR
      rw [List.length_replicate]; omega
  have hlen := mail_len (fun k => fI cell k) 100 (M.map dotR) 0 fun r hr => (hrl r hr).2
  have hle : (M.map dotR).length ≤ 99 := by rw [List.length_map]; exact hl
  have hm2 : (mailL (fun k => fI cell k) 0 (M.map dotR) ++ [c, 46]).length ≤ 10100 := by
    have : (M.map dotR).length * (100 + 2) ≤ 99 * 102 := Nat.mul_le_mul hle (by decide)
    rw [List.length_append]
    simp only [List.length_cons, List.length_nil]
    omega
  have hs := sent_mail (fun k => fI cell k) (M.map dotR) 0 [c, 46] (fun r hr => (hrl r hr).1) (by show some c ≠ some 10; simpa using hc1)
  rw [hpt] at hs
  have hst : (M.map dotR).map stuff = (up M).map dotR := by
    unfold up
    rw [List.map_map, List.map_map]
    exact List.map_congr_left fun m _ => stuff_dot m
  rw [hst] at hs
  obtain ⟨ρ', e⟩ := run_S Phi1 (M.map dotR) cell (by omega) (fun r hr => (hrl r hr).2) c hi _ ((up M).map dotR) (by
      have h1 := dots_len true (nlS (mailL (fun k => fI cell k) 0 (M.map dotR) ++ [c, 46]))
      have h2 := nls_len (mailL (fun k => fI cell k) 0 (M.map dotR) ++ [c, 46])
      omega) (by
      rw [phi1_Q]
      exact quoteF_sl _ (by omega)) hs (by rw [List.length_map]; unfold up; rw [List.length_map]; omega)
  rw [phi2_S]; exact runF_some rfl e
theorem rows3 (cell : Nat) (ds : List Nat) (hd : ∀ d ∈ ds, d < 16) (hl : ds.length ≤ 20) : Phi3 (Str.ofString "_law_rows") [.bytes (wordB ds), .int (cell : Int)] = some (.list (rowsM (wordM [] ds))) := by
  obtain ⟨ρ', e⟩ := run_W sent2 cell ds hd hl
  rw [phi3_W]; exact runF_some rfl e
theorem climb3 (A : List Nat) (m : Nat) (R : List Nat) (cell : Nat) (hl : (A ++ m :: R).length ≤ 90) (hx : ∀ x ∈ A ++ m :: R, x ≤ 90) : Phi3 (Str.ofString "_law_climbed") [.list (rowsM (A ++ m :: R)), .int (A.length : Nat), .int (cell : Int)] = some (.list (rowsM (clM A m R))) := by
  obtain ⟨ρ', e⟩ := run_K sent2 A m R cell hl hx
  rw [phi3_K]; exact runF_some rfl e
end Mine
end
section
open PySem
set_option maxRecDepth 100000
set_option Elab.async false
set_option linter.unusedSimpArgs false
set_option linter.unusedVariables false
set_option maxHeartbeats 4000000
namespace Mine
theorem dec_bounds {M : List Nat} {N : Nat} (hn : numP (plcS 0 M) = N) (hN : N < 2 ^ 24) : M.length ≤ 24 ∧ (∀ m ∈ M, m ≤ 23) ∧ ∀ p ∈ plcS 0 M, p < 24 := by
  have h3 : ∀ p ∈ plcS 0 M, p < 24 := fun p hp => mem_lt hp (by rw [hn]; exact hN)
  have h2 : ∀ X : List Nat, (∀ p ∈ plcS 0 X, p < 24) → ∀ m ∈ X, m ≤ 23 := by
    intro X
    induction X with
    | nil => intro _ m hm; nomatch hm
    | cons x X ih =>
      intro h m hm
      rcases List.mem_cons.mp hm with rfl | hm
      · have := h _ (by rw [plcS]; exact .head _); omega
      · exact ih (fun p hp => h p (by rw [plcS]; exact .tail _ hp)) m hm
  refine ⟨?_, h2 M h3, h3⟩
  cases M with
  | nil => exact Nat.zero_le _
  | cons x X =>
    have := h3 _ (by rw [plcS]; exact .head _)
    rw [List.length_cons]; omega
/-- the number and its rows -/
structure Ab (N : Nat) (M : List Nat) : Prop where
  dec : Dec M
  num : numP (plcS 0 M) = N
noncomputable def csD (C0 C1 C2 C3 C4 : Nat) : List D := [.int (C0 : Int), .int (C1 : Int), .int (C2 : Int), .int (C3 : Int), .int (C4 : Int)]
theorem big_C (is : List Int) (hlen : is.length ≤ 63) : ∃ C0 C1 C2 C3 C4 : Nat, Phi3 (Str.ofString "_law_cells") [.list (is.map .int)] = some (.list (csD C0 C1 C2 C3 C4)) := by
  have hb : ∀ k, 0 ≤ cellC is k := fun k => by
    have h := sum_b (remL is k 5) (remL_b is k 5)
    unfold cellC ownC
    split <;> omega
  refine ⟨(cellC is 0).toNat, (cellC is 1).toNat, (cellC is 2).toNat, (cellC is 3).toNat, (cellC is 4).toNat, ?_⟩
  rw [cells3 is hlen]
  unfold csD
  rw [Int.toNat_of_nonneg (hb 0), Int.toNat_of_nonneg (hb 1), Int.toNat_of_nonneg (hb 2), Int.toNat_of_nonneg (hb 3), Int.toNat_of_nonneg (hb 4)]
theorem cs4 (C0 C1 C2 C3 C4 : Nat) : index (.list (csD C0 C1 C2 C3 C4)) (.int 4) = some (.int (C4 : Int)) := indexL (k := 4) rfl (le_cap (by unfold csD; simp))
theorem pick_N (N e : Nat) (he : e < 2) : ∃ s : Int, index (.list [.int (N : Int), .int (-(N : Int))]) (.int (e : Int)) = some (.int s) ∧ s.natAbs = N := by
  have hc : ([.int (N : Int), .int (-(N : Int))] : List D).length ≤ cap := le_cap (by simp)
  have : e = 0 ∨ e = 1 := by omega
  rcases this with rfl | rfl
  · exact ⟨N, indexL (k := 0) rfl hc, by omega⟩
  · exact ⟨-(N : Int), indexL (k := 1) rfl hc, by omega⟩
theorem law_A (is : List D) (C0 C1 C2 C3 C4 : Nat) (hC : Phi3 (Str.ofString "_law_cells") [.list is] = some (.list (csD C0 C1 C2 C3 C4))) :
    ∃ N M, N < 2 ^ 12 ∧ Ab N M ∧ exs Phi3 ({} : Pol) nL (bL.take 3) [vL "script" is] = some (.next, [vL "script" is, vL "cells" (csD C0 C1 C2 C3 C4), vI "number" (N : Int), vL "rows" (rowsM M)]) := by
  have hN : C0 % 4096 < 4096 := Nat.mod_lt _ (by decide)
  have m1 := mod_nat C0 4096 (by decide)
  have m2 := mod_nat C4 2 (by decide)
  obtain ⟨s, hs1, hs2⟩ := pick_N (C0 % 4096) (C4 % 2) (Nat.mod_lt _ (by decide))
  generalize C0 % 4096 = N at *
  have hN3 : N < 16 ^ 3 := hN
  have hI := int3 s (by rw [hs2]; exact Nat.lt_of_lt_of_le hN3 (Nat.pow_le_pow_right (by decide) (by decide)))
  rw [hs2, hexF_D, show (40 : Nat) = 3 + 37 from rfl, hexD_more 37 3 N hN3] at hI
  have hR := rows3 C4 (hexD 3 N) (hexD_lt 3 N) (Nat.le_trans (hexD_len 3 N) (by decide))
  obtain ⟨w1, w2⟩ := word_num 3 N hN3
  exact ⟨N, wordM [] (hexD 3 N), hN, ⟨w2, w1⟩, wL_0 Phi3 is _ _ (C0 : Int) (C4 : Int) (N : Int) _ s _ hC (indexL (k := 0) rfl (le_cap (by unfold csD; simp))) (cs4 ..) m1 m2 hs1 hI hR⟩
theorem plc_at : ∀ (A : List Nat) (m : Nat) (R : List Nat), (plcS 0 (A ++ m :: R))[A.length]? = some (m + R.length) := by
  intro A m R
  rw [plcS_app, List.getElem?_append_right (by rw [plcS_len]; exact Nat.le_refl _), plcS_len, Nat.sub_self, plcS]; rfl
theorem split_at {M : List Nat} {k : Nat} (h : k < M.length) : ∃ A m R, M = A ++ m :: R ∧ A.length = k := by
  refine ⟨M.take k, M[k], M.drop (k + 1), ?_, by rw [List.length_take]; omega⟩
  rw [← List.drop_eq_getElem_cons h, List.take_append_drop]
/-- a deed's turn -/
theorem law_turn (cs : List D) (N : Nat) (M : List Nat) (k : Nat) (hk : k ≤ 20) (hN : N < 2 ^ k) (H : Ab N M) (c : Nat) (t : Rho) (ht : t = [] ∨ (∃ o, t = [vL "ones" o]) ∨ ∃ o x, t = [vL "ones" o, vI "chosen" x]) :
    ∃ N' M' t', N' < 2 ^ (k + 4) ∧ Ab N' M' ∧ ((∃ o, t' = [vL "ones" o]) ∨ ∃ o x, t' = [vL "ones" o, vI "chosen" x]) ∧
      exs Phi3 ({} : Pol) nL bD ([vL "cells" cs, vI "number" (N : Int), vL "rows" (rowsM M), vI "cell" (c : Int)] ++ t) = some (.next, [vL "cells" cs, vI "number" (N' : Int), vL "rows" (rowsM M'), vI "cell" (c : Int)] ++ t') := by
  have hNk : N < 2 ^ 24 := Nat.lt_of_lt_of_le hN (Nat.pow_le_pow_right (by decide) (by omega))
  obtain ⟨b1, b2, b3⟩ := dec_bounds H.num hNk
  have hone := wL_ones Phi3 cs (rowsM M) N (c : Int) t
  have hof : (descL 24).filter (bitO N) = plcS 0 M := by
    rw [← H.num]
    exact ones_eq 24 _ (plcS_dec 0 M H.dec) b3
  rw [hof] at hone
  obtain ⟨t1, ht1, hput⟩ : ∃ t1, (t1 = [] ∨ ∃ x, t1 = [vI "chosen" x]) ∧ put ([vL "cells" cs, vI "number" (N : Int), vL "rows" (rowsM M), vI "cell" (c : Int)] ++ t) (Str.ofString "ones") (.val (.list (intsD (plcS 0 M)))) = [vL "cells" cs, vI "number" (N : Int), vL "rows" (rowsM M), vI "cell" (c : Int), vL "ones" (intsD (plcS 0 M))] ++ t1 := by
    rcases ht with rfl | ⟨o, rfl⟩ | ⟨o, x, rfl⟩
    · exact ⟨[], .inl rfl, by simp only [List.cons_append, List.nil_append, put_s, put_nil, String.reduceEq, if_true, if_false]⟩
    · exact ⟨[], .inl rfl, by simp only [List.cons_append, List.nil_append, put_s, put_nil, String.reduceEq, if_true, if_false]⟩
    · exact ⟨[vI "chosen" x], .inr ⟨x, rfl⟩, by simp only [List.cons_append, List.nil_append, put_s, put_nil, String.reduceEq, if_true, if_false]⟩
  obtain ⟨p, q, hb⟩ : ∃ p q, bD = [.Assign [.Name (Str.ofString "ones") p] (tst? bD 0) q, .If (tst? bD 1) (inner? bD 1) [] (pos? bD 1)] := ⟨_, _, rfl⟩
  have run0 : exs Phi3 ({} : Pol) nL bD ([vL "cells" cs, vI "number" (N : Int), vL "rows" (rowsM M), vI "cell" (c : Int)] ++ t) = andThen Phi3 ({} : Pol) nL [] (ifS Phi3 ({} : Pol) nL ([vL "cells" cs, vI "number" (N : Int), vL "rows" (rowsM M), vI "cell" (c : Int), vL "ones" (intsD (plcS 0 M))] ++ t1) (inner? bD 1) [] (some (!decide (plcS 0 M = [])))) := by
    have e := congrArg (fun b => exs Phi3 ({} : Pol) nL b ([vL "cells" cs, vI "number" (N : Int), vL "rows" (rowsM M), vI "cell" (c : Int)] ++ t)) hb
    refine e.trans ?_
    show exs Phi3 ({} : Pol) nL [.Assign [.Name (Str.ofString "ones") p] (tst? bD 0) q, .If (tst? bD 1) (inner? bD 1) [] (pos? bD 1)] _ = _
    rw [exs_cons, ex_asg, freeze0, hone, asg0 nL_ones, andThen_next, hput, exs_cons, ex_if, freeze0]
    have htst := wL_tst Phi3 cs (rowsM M) (N : Int) (c : Int) (plcS 0 M) t1
    exact congrArg (fun x => andThen Phi3 ({} : Pol) nL [] (ifS Phi3 ({} : Pol) nL ([vL "cells" cs, vI "number" (N : Int), vL "rows" (rowsM M), vI "cell" (c : Int), vL "ones" (intsD (plcS 0 M))] ++ t1) (inner? bD 1) [] x)) htst
  by_cases hM : plcS 0 M = []
  · refine ⟨N, M, [vL "ones" (intsD (plcS 0 M))] ++ t1, Nat.lt_of_lt_of_le hN (Nat.pow_le_pow_right (by decide) (by omega)), H, ?_, ?_⟩
    · rcases ht1 with rfl | ⟨x, rfl⟩
      · exact .inl ⟨_, rfl⟩
      · exact .inr ⟨_, _, rfl⟩
    · rw [run0, decide_eq_true hM, Bool.not_true, ifS_false, exs_nil, andThen_next, exs_nil]; rfl
  · have hpos : 0 < M.length := by
      rw [← plcS_len 0 M]
      exact List.length_pos_iff.mpr hM
    have hch := Nat.mod_lt c hpos
    obtain ⟨A, m, R, hA, hAl⟩ := split_at hch
    have hlen : builtin? (Str.ofString "len") [.list (intsD (plcS 0 M))] = some (.int (M.length : Nat)) := by
      rw [lenL (by rw [intsD_len, plcS_len]; exact le_cap (by omega)), intsD_len, plcS_len]
    have hm := mod_nat c M.length (by omega)
    rw [← hAl] at hm
    have hpl : (plcS 0 M)[A.length]? = some (m + R.length) := by rw [hA]; exact plc_at A m R
    have hix := intsD_at hpl (by rw [plcS_len]; omega)
    have hp24 : m + R.length < 24 := b3 _ (List.mem_of_getElem? hpl)
    have hsh := shr_nat N (m + R.length + 4)
    have hm2 := mod_nat (N / 2 ^ (m + R.length + 4)) 2 (by decide)
    have hsl : binop .LShift (.int 15) (.int ((m + R.length : Nat) : Int)) = some (.int ((15 * 2 ^ (m + R.length) : Nat) : Int)) := by
      rw [bo_shlI (by decide) (by omega) (by omega), Int.toNat_natCast, Int.natCast_mul, Int.natCast_pow]; rfl
    have hΦ := climb3 A m R c (by rw [← hA]; omega) (fun x hx => by rw [← hA] at hx; have := b2 x hx; omega)
    rw [← hA] at hΦ
    rw [show ((m + R.length + 4 : Nat) : Int) = ((m + R.length : Nat) : Int) + 4 by omega] at hsh
    have run1 := wL_deed Phi3 cs (rowsM M) _ (intsD (plcS 0 M)) (N : Int) (c : Int) _ _ _ _ _ _ t1 ht1 hlen hm hΦ hix hsh hm2 hsl
    have hmem : m + R.length + 4 ∈ plcS 0 M ↔ N / 2 ^ (m + R.length + 4) % 2 = 1 := by
      have h28 : (descL 28).filter (bitO N) = plcS 0 M := by
        rw [← H.num]
        exact ones_eq 28 _ (plcS_dec 0 M H.dec) (fun p hp => by have := b3 p hp; omega)
      rw [← h28, List.mem_filter, mem_desc]
      unfold bitO
      rw [decide_eq_true_eq]
      exact ⟨fun h => h.2, fun h => ⟨by omega, h⟩⟩
    have hpk : ∀ q ∈ plcS 0 M, q < k := fun q hq => mem_lt hq (by rw [H.num]; exact hN)
    have hok := climb_ok A m R (by rw [← hA]; exact H.dec)
    rw [← hA] at hok
    rw [run0, decide_eq_false hM, Bool.not_false, ifS_true, run1, andThen_next, exs_nil]
    rcases hok with ⟨o1, o2⟩ | ⟨o1, o2, o3, o4⟩
    · have h1 := hmem.mp o1
      rw [h1, o2]
      refine ⟨N, M, [vL "ones" (intsD (plcS 0 M)), vI "chosen" (A.length : Nat)], Nat.lt_of_lt_of_le hN (Nat.pow_le_pow_right (by decide) (by omega)), H, .inr ⟨_, _, rfl⟩, rfl⟩
    · have h1 : N / 2 ^ (m + R.length + 4) % 2 = 0 := by
        have h2 : ¬ N / 2 ^ (m + R.length + 4) % 2 = 1 := fun h => o1 (hmem.mpr h)
        generalize N / 2 ^ (m + R.length + 4) = z at h2
        omega
      rw [h1]
      have hnum : numP (plcS 0 (clM A m R)) = N + 15 * 2 ^ (m + R.length) := by
        rw [H.num, Nat.pow_add 2 (m + R.length) 4] at o3
        have : (2 : Nat) ^ 4 = 16 := rfl
        rw [this] at o3
        omega
      refine ⟨N + 15 * 2 ^ (m + R.length), clM A m R, [vL "ones" (intsD (plcS 0 M)), vI "chosen" (A.length : Nat)], ?_, ⟨o2, hnum⟩, .inr ⟨_, _, rfl⟩, ?_⟩
      · rw [← hnum]
        refine numP_lt _ _ (plcS_dec 0 _ o2) fun q hq => ?_
        have hp := hpk _ (List.mem_of_getElem? hpl)
        rcases o4 q hq with h | h
        · omega
        · have := hpk q h; omega
      · rw [show (if decide (((0 : Nat) : Int) = 0) = true then (N : Int) + ((15 * 2 ^ (m + R.length) : Nat) : Int) else (N : Int)) = ((N + 15 * 2 ^ (m + R.length) : Nat) : Int) from (if_pos rfl).trans (Int.natCast_add _ _).symm]
        rfl
theorem law_loop (cs : List D) : ∀ (cl : List Nat) (N : Nat) (M : List Nat) (k : Nat) (t : Rho), k + 4 * cl.length ≤ 24 → N < 2 ^ k → Ab N M → (t = [] ∨ ∃ c t1, t = vI "cell" c :: t1 ∧ ((∃ o, t1 = [vL "ones" o]) ∨ ∃ o x, t1 = [vL "ones" o, vI "chosen" x])) →
    ∃ N' M' t', N' < 2 ^ 24 ∧ Ab N' M' ∧ loopF (Str.ofString "cell") (exs Phi3 ({} : Pol) nL bD) (intsD cl) ([vL "cells" cs, vI "number" (N : Int), vL "rows" (rowsM M)] ++ t) = some (.next, [vL "cells" cs, vI "number" (N' : Int), vL "rows" (rowsM M')] ++ t')
  | [], N, M, k, t, hk, hN, H, ht => ⟨N, M, t, Nat.lt_of_lt_of_le hN (Nat.pow_le_pow_right (by decide) (by rw [List.length_nil] at hk; omega)), H, rfl⟩
  | c :: cl, N, M, k, t, hk, hN, H, ht => by
    rw [List.length_cons] at hk
    obtain ⟨t1, ht1, hput⟩ : ∃ t1, (t1 = [] ∨ (∃ o, t1 = [vL "ones" o]) ∨ ∃ o x, t1 = [vL "ones" o, vI "chosen" x]) ∧ put ([vL "cells" cs, vI "number" (N : Int), vL "rows" (rowsM M)] ++ t) (Str.ofString "cell") (.val (.int (c : Int))) = [vL "cells" cs, vI "number" (N : Int), vL "rows" (rowsM M), vI "cell" (c : Int)] ++ t1 := by
      rcases ht with rfl | ⟨c', t1, rfl, h⟩
      · exact ⟨[], .inl rfl, by simp only [List.cons_append, List.nil_append, put_s, put_nil, String.reduceEq, if_true, if_false]⟩
      · exact ⟨t1, .inr h, by simp only [List.cons_append, List.nil_append, put_s, put_nil, String.reduceEq, if_true, if_false]⟩
    obtain ⟨N1, M1, t2, hN1, H1, ht2, run⟩ := law_turn cs N M k (by omega) hN H c t1 ht1
    have e0 : intsD (c :: cl) = .int (c : Int) :: intsD cl := rfl
    obtain ⟨N', M', t', hN', H', hl⟩ := law_loop cs cl N1 M1 (k + 4) (vI "cell" (c : Int) :: t2) (by omega) hN1 H1 (.inr ⟨_, _, rfl, ht2⟩)
    refine ⟨N', M', t', hN', H', ?_⟩
    rw [e0, loopF, hput, run, turn_next]
    exact hl
theorem law_B (C0 C1 C2 C3 C4 N : Nat) (M : List Nat) (hN : N < 2 ^ 12) (H : Ab N M) :
    ∃ N' M' t', N' < 2 ^ 24 ∧ Ab N' M' ∧ exs Phi3 ({} : Pol) nL ((bL.drop 3).take 1) ([vL "cells" (csD C0 C1 C2 C3 C4), vI "number" (N : Int), vL "rows" (rowsM M)]) = some (.next, [vL "cells" (csD C0 C1 C2 C3 C4), vI "number" (N' : Int), vL "rows" (rowsM M')] ++ t') := by
  obtain ⟨N', M', t', hN', H', hl⟩ := law_loop (csD C0 C1 C2 C3 C4) [C1, C2, C3] N M 12 [] (by simp) hN H (.inl rfl)
  refine ⟨N', M', t', hN', H', ?_⟩
  have hs : (bL.drop 3).take 1 = [.For (.Name (Str.ofString "cell") (tpos? bL 3)) (tst? bL 3) bD [] (pos? bL 3)] := rfl
  have hsl : slice (.list (csD C0 C1 C2 C3 C4)) (.int 1) (.int 4) .none = some (.list (intsD [C1, C2, C3])) := by
    rw [sliceL (pt_int (by decide) (by decide)) (pt_int (by decide) (by decide)) (le_cap (by unfold csD; simp)), show (1 : Int) = ((1 : Nat) : Int) from rfl, show (4 : Int) = ((4 : Nat) : Int) from rfl, pk_mid _ _ _ (by unfold csD; simp)]
    rfl
  have hit : evI Phi3 (tst? bL 3) nL [vL "cells" (csD C0 C1 C2 C3 C4), vI "number" (N : Int), vL "rows" (rowsM M)] = some (intsD [C1, C2, C3]) := by
    conv => lhs; arg 2; whnf
    simp only [exs_nil, exs_cons, andThen_next, andThen_brk, andThen_ret, ifS_true, ifS_false, ex_if, ex_pass, ex_break, retS_some, ex_ret, asgS_some, ex_asg, augS_some, ex_aug, appS_some, ex_app, forS_some, ex_for, ex_while, ev_const, ev_name, bin2_some, ev_bin, negO_some, ev_neg, ifE_true, ifE_false, ev_if, ev_list, ev_tuple, cons2_some, evs_nil, evs_cons, cmp2_some, evT_cmp, ev_cmp, truthO_some, evT_name, evT_bin, evT_and, evT_or, evT_not, andS_true, andS_false, orS_true, orS_false, evA_nil, evR_nil, evA_cons, evR_cons, ev_call, evT_call, slice4_some, ev_slice, evO_none, evO_some, idxO_some, ev_idx_name, ev_idx_const, ev_idx_bin, ev_idx_un, ev_comp, evI_name, evI_list, evI_slice, evI_range, rangeO_some, getV_val, getV_own, lookup_s, put_nil, put_s, freeze_miss, freeze0, own0, asg0, aug0, for0, eq_self, not_false_eq_true, not_true_eq_false, vI, vS, vB, vL, vO, bo_addI, bo_subI, bo_andI, cm_eq, cm_ne, cm_lt, cm_le, cm_gt, cm_ge, eq_int, eq_str, eq_bytes, tr_int, tr_bool, cd_int, cd_str, cd_bytes, cd_none, cd_bool, nocontains, String.reduceEq, if_true, if_false, Bool.false_eq_true, Option.map_some, ex_tup_call, ex_tup_disp, namesOf_nil, namesOf_name, putsO_some, puts_nil, puts_cons, tupV_some, tupD_some, evCO_some, evC_nil, evC_step, consC_some, List.map_cons, List.map_nil, methN_own, ev_meth_name, ev_meth_const, ev_meth_sub, ev_meth_call, callM_some, beq_self_eq_true, Bool.and_self, Bool.and_true, Nat.reduceLT, listO_s, tupO_s, List.length_cons, List.length_nil, Nat.reduceAdd, Nat.reduceLeDiff, methN_val, List.all_nil, List.all_cons, decide_true, decide_false, List.take_succ_cons, List.take_zero, List.nil_append, List.cons_append, hsl]
    exact iterV_some (le_cap (by rw [intsD_len]; simp))
  rw [hs, exs_cons, ex_for, freeze0, hit, for0 nL_cell (intsD_imm _)]
  rw [List.append_nil] at hl
  rw [hl, andThen_next, exs_nil]
noncomputable def signsL : List Nat := [122, 50, 32, 46, 13]
theorem e_signs : Str.ofString "z2 .\r" = sl signsL := by decide +kernel
theorem wL_sign (Φ : Fns) (cs : List D) (C4 e : Int) (ρ : Rho) (c : Nat) (hcs : getV ρ (Str.ofString "cells") = some (.list cs)) (h4 : index (.list cs) (.int 4) = some (.int C4)) (m : binop .Mod (.int C4) (.int 5) = some (.int e)) (hi : index (.str (sl signsL)) (.int e) = some (.str (sl [c]))) : ev Φ (tst? bL 8) nL ρ = some (.str (sl [c])) := by
  conv => lhs; arg 2; whnf
  simp only [exs_nil, exs_cons, andThen_next, andThen_brk, andThen_ret, ifS_true, ifS_false, ex_if, ex_pass, ex_break, retS_some, ex_ret, asgS_some, ex_asg, augS_some, ex_aug, appS_some, ex_app, forS_some, ex_for, ex_while, ev_const, ev_name, bin2_some, ev_bin, negO_some, ev_neg, ifE_true, ifE_false, ev_if, ev_list, ev_tuple, cons2_some, evs_nil, evs_cons, cmp2_some, evT_cmp, ev_cmp, truthO_some, evT_name, evT_bin, evT_and, evT_or, evT_not, andS_true, andS_false, orS_true, orS_false, evA_nil, evR_nil, evA_cons, evR_cons, ev_call, evT_call, slice4_some, ev_slice, evO_none, evO_some, idxO_some, ev_idx_name, ev_idx_const, ev_idx_bin, ev_idx_un, ev_comp, evI_name, evI_list, evI_slice, evI_range, rangeO_some, getV_val, getV_own, lookup_s, put_nil, put_s, freeze_miss, freeze0, own0, asg0, aug0, for0, eq_self, not_false_eq_true, not_true_eq_false, vI, vS, vB, vL, vO, bo_addI, bo_subI, bo_andI, cm_eq, cm_ne, cm_lt, cm_le, cm_gt, cm_ge, eq_int, eq_str, eq_bytes, tr_int, tr_bool, cd_int, cd_str, cd_bytes, cd_none, cd_bool, nocontains, String.reduceEq, if_true, if_false, Bool.false_eq_true, Option.map_some, ex_tup_call, ex_tup_disp, namesOf_nil, namesOf_name, putsO_some, puts_nil, puts_cons, tupV_some, tupD_some, evCO_some, evC_nil, evC_step, consC_some, List.map_cons, List.map_nil, methN_own, ev_meth_name, ev_meth_const, ev_meth_sub, ev_meth_call, callM_some, beq_self_eq_true, Bool.and_self, Bool.and_true, Nat.reduceLT, listO_s, tupO_s, List.length_cons, List.length_nil, Nat.reduceAdd, Nat.reduceLeDiff, methN_val, List.all_nil, List.all_cons, decide_true, decide_false, List.take_succ_cons, List.take_zero, List.nil_append, List.cons_append, e_signs, hcs, h4, m, hi]
theorem law_C (C0 C1 C2 C3 C4 N : Nat) (M : List Nat) (hN : N < 2 ^ 24) (H : Ab N M) :
    ∃ c pw du, c ≠ 34 ∧ exs Phi3 ({} : Pol) nL ((bL.drop 4).take 5) ([vL "cells" (csD C0 C1 C2 C3 C4), vI "number" (N : Int), vL "rows" (rowsM M)]) = some (.next, [vL "cells" (csD C0 C1 C2 C3 C4), vI "number" (N : Int), vL "rows" (rowsM M), vL "places" (intsD (plcS 0 M)), vL "powers" pw, vB "due" du, vS "sign" (sl [c])]) := by
  obtain ⟨b1, b2, b3⟩ := dec_bounds H.num hN
  have hk : C4 % 5 < signsL.length := Nat.mod_lt _ (by decide)
  have hm := mod_nat C4 5 (by decide)
  generalize C4 % 5 = k at hk hm
  have hi : index (.str (sl signsL)) (.int (k : Int)) = some (.str (sl [signsL[k]])) := indexS (List.getElem?_eq_getElem hk) (le_cap (by decide))
  have hne : signsL[k] ≠ 34 := by
    have := List.getElem_mem hk
    generalize signsL[k] = c at this
    simp only [signsL, List.mem_cons, List.not_mem_nil, or_false] at this
    omega
  refine ⟨signsL[k], intsD (pows N), wordB (digs 7 N), hne, ?_⟩
  obtain ⟨p1', q1, p2', q2, p3', q3, p4', q4, hs⟩ : ∃ p1' q1 p2' q2 p3' q3 p4' q4, (bL.drop 4).take 5 = [.Assign [.Name (Str.ofString "places") p1'] (tst? bL 4) q1, .Assign [.Name (Str.ofString "powers") p2'] (tst? bL 5) q2, .Assign [.Name (Str.ofString "due") p3'] (tst? bL 6) q3, .If (tst? bL 7) (inner? bL 7) [] (pos? bL 7), .Assign [.Name (Str.ofString "sign") p4'] (tst? bL 8) q4] := ⟨_, _, _, _, _, _, _, _, rfl⟩
  have hI := int3 (-((numP (plcS 0 M) : Nat) : Int)) (by rw [H.num, Int.natAbs_neg, Int.natAbs_natCast]; exact Nat.lt_of_lt_of_le hN (by decide))
  rw [Int.natAbs_neg, Int.natAbs_natCast, H.num, hexF_D, show (40 : Nat) = 7 + 33 from rfl, hexD_more 33 7 N (Nat.lt_of_lt_of_le hN (by decide)), ← digs_ok, ← H.num] at hI
  rw [H.num] at hI
  have hsame := wL_same Phi3 (csD C0 C1 C2 C3 C4) (rowsM M) N (plcS 0 M) (intsD (pows N)) (wordB (digs 7 N)) (by rw [plcS_len]; omega) (fun p hp => by have := b3 p hp; omega) (by rw [H.num]; exact hI)
  rw [hs, exs_cons, ex_asg, freeze0, wL_places Phi3 _ _ M (by omega) (fun m hm => by have := b2 m hm; omega), asg0 nL_places, andThen_next]
  have hp1 : put [vL "cells" (csD C0 C1 C2 C3 C4), vI "number" (N : Int), vL "rows" (rowsM M)] (Str.ofString "places") (.val (.list (intsD (plcS 0 M)))) = [vL "cells" (csD C0 C1 C2 C3 C4), vI "number" (N : Int), vL "rows" (rowsM M), vL "places" (intsD (plcS 0 M))] := by
    simp only [put_s, put_nil, String.reduceEq, if_true, if_false]
  rw [hp1, exs_cons, ex_asg, freeze0, wL_powers, asg0 nL_powers, andThen_next]
  have hp2 : put [vL "cells" (csD C0 C1 C2 C3 C4), vI "number" (N : Int), vL "rows" (rowsM M), vL "places" (intsD (plcS 0 M))] (Str.ofString "powers") (.val (.list (intsD (pows N)))) = [vL "cells" (csD C0 C1 C2 C3 C4), vI "number" (N : Int), vL "rows" (rowsM M), vL "places" (intsD (plcS 0 M)), vL "powers" (intsD (pows N))] := by
    simp only [put_s, put_nil, String.reduceEq, if_true, if_false]
  rw [hp2, exs_cons, ex_asg, freeze0, wL_due, asg0 nL_due, andThen_next]
  have hp3 : put [vL "cells" (csD C0 C1 C2 C3 C4), vI "number" (N : Int), vL "rows" (rowsM M), vL "places" (intsD (plcS 0 M)), vL "powers" (intsD (pows N))] (Str.ofString "due") (.val (.bytes (wordB (digs 7 N)))) = [vL "cells" (csD C0 C1 C2 C3 C4), vI "number" (N : Int), vL "rows" (rowsM M), vL "places" (intsD (plcS 0 M)), vL "powers" (intsD (pows N)), vB "due" (wordB (digs 7 N))] := by
    simp only [put_s, put_nil, String.reduceEq, if_true, if_false]
  rw [hp3, exs_cons, ex_if, freeze0, hsame, ifS_false, exs_nil, andThen_next, exs_cons, ex_asg, freeze0, wL_sign Phi3 (csD C0 C1 C2 C3 C4) (C4 : Int) (k : Int) _ _ (by simp only [getV_val, String.reduceEq, if_true, if_false]) (cs4 ..) hm hi, asg0 nL_sign, andThen_next, exs_nil]
  simp only [put_s, put_nil, String.reduceEq, if_true, if_false]
end Mine
end
section
open PySem PySem.W PyProof.Rows
set_option maxRecDepth 100000
set_option Elab.async false
set_option maxHeartbeats 4000000
namespace Mine
theorem at_P (P : Params) : FnAt (hd.heap_1 P) p1 6 (Str.ofString "parse257") 70 [Str.ofString "resp"] :=
  fnAt_mk (by kernel_rfl) (by kernel_rfl) (fun _ _ _ => bind1 fun _ => rfl) (by decide +kernel) (by kernel_rfl) (by decide +kernel)
theorem at_I (P : Params) : FnAt (hd.heap_1 P) p1 2 (Str.ofString "Int2AP") 38 [Str.ofString "num"] :=
  fnAt_mk (by kernel_rfl) (by kernel_rfl) (fun _ _ _ => bind1 fun _ => rfl) (by decide +kernel) (by kernel_rfl) (by decide +kernel)
theorem at_C (P : Params) : FnAt (hd.heap_1 P) p1 13 (Str.ofString "_law_cells") 92 [Str.ofString "script"] :=
  fnAt_mk (by kernel_rfl) (by kernel_rfl) (fun _ _ _ => bind1 fun _ => rfl) (by decide +kernel) (by kernel_rfl) (by decide +kernel)
theorem at_S (P : Params) : FnAt (hd.heap_1 P) p1 14 (Str.ofString "_law_sent") 97 [Str.ofString "rows", Str.ofString "cell"] :=
  fnAt_mk (by kernel_rfl) (by kernel_rfl) (fun _ _ _ => bind2 fun _ _ => rfl) (by decide +kernel) (by kernel_rfl) (by decide +kernel)
theorem at_W (P : Params) : FnAt (hd.heap_1 P) p1 15 (Str.ofString "_law_rows") 104 [Str.ofString "word", Str.ofString "cell"] :=
  fnAt_mk (by kernel_rfl) (by kernel_rfl) (fun _ _ _ => bind2 fun _ _ => rfl) (by decide +kernel) (by kernel_rfl) (by decide +kernel)
theorem at_K (P : Params) : FnAt (hd.heap_1 P) p1 16 (Str.ofString "_law_climbed") 111 [Str.ofString "rows", Str.ofString "k", Str.ofString "cell"] :=
  fnAt_mk (by kernel_rfl) (by kernel_rfl) (fun _ _ _ => bind3 fun _ _ _ => rfl) (by decide +kernel) (by kernel_rfl) (by decide +kernel)
theorem at_H (P : Params) : FnAt (hd.heap_1 P) p1 17 (Str.ofString "_law_half") 118 [Str.ofString "marks", Str.ofString "sign", Str.ofString "tail"] :=
  fnAt_mk (by kernel_rfl) (by kernel_rfl) (fun _ _ _ => bind3 fun _ _ _ => rfl) (by decide +kernel) (by kernel_rfl) (by decide +kernel)
theorem at_G (P : Params) : FnAt (hd.heap_1 P) p1 18 (Str.ofString "_law_hooks") 123 [Str.ofString "rows"] :=
  fnAt_mk (by kernel_rfl) (by kernel_rfl) (fun _ _ _ => bind1 fun _ => rfl) (by decide +kernel) (by kernel_rfl) (by decide +kernel)
theorem at_X (P : Params) : FnAt (hd.heap_1 P) p1 19 (Str.ofString "_law_refused") 130 [Str.ofString "code", Str.ofString "rest"] :=
  fnAt_mk (by kernel_rfl) (by kernel_rfl) (fun _ _ _ => bind2 fun _ _ => rfl) (by decide +kernel) (by kernel_rfl) (by decide +kernel)
theorem at_Q (P : Params) : FnAt (hd.heap_1 P) p1 11 (Str.ofString "quotedata") 87 [Str.ofString "data"] :=
  fnAt_mk (by kernel_rfl) (by kernel_rfl) (fun _ _ _ => bind1 fun _ => rfl) (by decide +kernel) (by kernel_rfl) (by decide +kernel)
theorem glo_ok (P : Params) : (("range" : Str) :: builtinNames).all (fun f => match nsIn (hd.heap_1 P) mainGlobals f with | some none => true | _ => false) = true := by kernel_rfl
end Mine
end
section
open PySem PySem.W PySem.Builtin.Re PyProof.Rows
set_option maxRecDepth 100000
set_option Elab.async false
set_option maxHeartbeats 4000000
namespace Mine
noncomputable def dgs (n : Nat) : List Nat := if n < 10 then [48 + n] else if n < 100 then [48 + n / 10, 48 + n % 10] else [48 + n / 100, 48 + n / 10 % 10, 48 + n % 10]
theorem dig_c : ∀ n : Nat, n < 10 → n.digitChar.toNat = 48 + n := by decide +kernel
theorem str_dgs (n : Nat) (h : n < 1000) : Str.ofString (toString (n : Int)) = sl (dgs n) := by
  have e : toString (n : Int) = String.ofList (Nat.toDigits 10 n) := Nat.repr_eq_ofList_toDigits
  rw [Str.ofString_eq_toList, e, String.toList_ofList]
  have hm : (Nat.toDigits 10 n).map Char.toNat = dgs n := by
    unfold dgs
    have d0 := dig_c (n % 10) (Nat.mod_lt _ (by decide))
    rw [Nat.toDigits_eq_if (by decide)]
    by_cases h1 : n < 10
    · rw [if_pos h1, if_pos h1, List.map_singleton, dig_c n h1]
    · rw [if_neg h1, if_neg h1, List.map_append, List.map_singleton, d0, Nat.toDigits_eq_if (by decide)]
      have d1 := dig_c (n / 10 % 10) (Nat.mod_lt _ (by decide))
      by_cases h2 : n < 100
      · rw [if_pos (by omega), if_pos h2, List.map_singleton, dig_c (n / 10) (by omega)]; rfl
      · rw [if_neg (by omega), if_neg h2, List.map_append, List.map_singleton, d1, Nat.toDigits_eq_if (by decide), if_pos (by omega), List.map_singleton, dig_c _ (by omega), show n / 10 / 10 = n / 100 by omega]; rfl
  rw [hm]; rfl
theorem str_n (n : Nat) (h : n < 1000) : builtin? (Str.ofString "str") [.int (n : Int)] = some (.str (sl (dgs n))) := by
  have e : builtin? (Str.ofString "str") [.int (n : Int)] = if (decide (0 ≤ (n : Int)) && decide ((n : Int) ≤ 1000000)) = true then some (.str (Str.ofString (toString (n : Int)))) else .none := rfl
  rw [e, if_pos (by simp; omega), str_dgs n h]
theorem dgs_len (n : Nat) : (dgs n).length ≤ 3 := by
  unfold dgs
  split
  · simp
  · split <;> simp
theorem dgs_257 (n : Nat) (y : List Nat) (hn : n ≠ 257) : (dgs n ++ 32 :: y).take 3 ≠ [50, 53, 55] := by
  unfold dgs
  split
  · simp
  · split
    · simp
    · simp; omega
theorem quote_at : QuoteAt p1 11 where
  body := ⟨_, _, _, _, _, _, _, _, _, _, _, rfl, rfl, rfl⟩
  n1 := by decide +kernel
  n2 := by decide +kernel
  n3 := by decide +kernel
noncomputable def patChk (K : Frag) (p : Addr) (c : Array Nat) : Bool := match K.lookup p with
  | some o => decide (o.cls = .type "re.Pattern") && o.dict.isNone && (match o.data with
    | .fields vs => (match vs.getD 6 .none, vs.getD 2 .none, vs.getD 5 .none with
      | .int i _, .int j _, .ref ct => decide (i = 0) && decide (j = 0) && (match K.lookup ct with
        | some oc => (match oc.data with
          | .seq items _ => decide ((items.map reRawOf).map (·.toNat) = c)
          | _ => false)
        | _ => false)
      | _, _, _ => false)
    | _ => false)
  | _ => false
theorem patAt_of {K : Frag} {h : Heap} {p : Addr} {c : Array Nat} (KX : K.In h) (hc : patChk K p c = true) : PatAt h p c := by
  unfold patChk at hc
  split at hc
  · rename_i o ho
    simp only [Bool.and_eq_true, decide_eq_true_eq] at hc
    obtain ⟨⟨h1, h2⟩, h3⟩ := hc
    split at h3
    · rename_i vs hvs
      split at h3
      · rename_i i t6 j t2 ct e6 e2 e5
        simp only [Bool.and_eq_true, decide_eq_true_eq] at h3
        obtain ⟨⟨rfl, rfl⟩, h4⟩ := h3
        split at h4
        · rename_i oc hoc
          split at h4
          · rename_i items n hit
            exact ⟨o, vs, ct, t6, t2, KX _ _ ho, h1, by simpa using h2, hvs, e6, e2, e5, oc, items, n, KX _ _ hoc, hit, of_decide_eq_true h4⟩
          · cases h4
        · cases h4
      · cases h3
    · cases h3
  · cases hc
theorem chk1 (P : Params) : patChk (hd.heap_1 P) 75 c1 = true := by kernel_rfl
theorem chk2 (P : Params) : patChk (hd.heap_1 P) 80 c2 = true := by kernel_rfl
theorem nm1 (P : Params) : nsIn (hd.heap_1 P) mainGlobals (Str.ofString "_twin_re_1") = some (some (.ref 75)) := by kernel_rfl
theorem nm2 (P : Params) : nsIn (hd.heap_1 P) mainGlobals (Str.ofString "_twin_re_2") = some (some (.ref 80)) := by kernel_rfl
noncomputable def crlfT (P : Params) : Tok := match nsIn (hd.heap_1 P) mainGlobals (Str.ofString "CRLF") with
  | some (some (.str _ t)) => t
  | _ => 0
theorem nm3 (P : Params) : nsIn (hd.heap_1 P) mainGlobals (Str.ofString "CRLF") = some (some (.str (sl [13, 10]) (crlfT P))) := by kernel_rfl
section
variable {prog : Program} {w : World} {h₀ : Heap} {mg mb : Str → Option Value} {P : Params}
theorem fns0 : FnsOk prog w h₀ mg 0 noF := fun f ds d e => nomatch e
theorem fns1 (KX : (hd.heap_1 P).In h₀) (hlim : h₀.NoLimit) (G : Glo h₀ mg mb) : FnsOk prog w h₀ mg 1 Phi1 := by
  refine fnsOk_of fun f => ?_
  unfold Phi1
  split
  · rename_i h; subst h; exact fnOk_run KX hlim G fns0 {} (at_P P)
  · split
    · rename_i h; subst h; exact fnOk_run KX hlim G fns0 {} (at_I P)
    · split
      · rename_i h; subst h; exact fnOk_run KX hlim G fns0 {} (at_C P)
      · split
        · rename_i h; subst h; exact fnOk_run KX hlim G fns0 {} (at_G P)
        · split
          · rename_i h; subst h; exact fnOk_quote (lvl := 0) KX hlim G (at_Q P) quote_at (patAt_of KX (chk1 P)) (patAt_of KX (chk2 P)) (mg_of KX G.g (nm1 P)) (mg_of KX G.g (nm2 P)) (mg_of KX G.g (nm3 P))
          · exact fnOk1_none
theorem fns2 (KX : (hd.heap_1 P).In h₀) (hlim : h₀.NoLimit) (G : Glo h₀ mg mb) : FnsOk prog w h₀ mg 2 Phi2 := by
  have F1 : FnsOk prog w h₀ mg 1 Phi1 := fns1 KX hlim G
  refine fnsOk_of fun f => ?_
  unfold Phi2
  split
  · rename_i h; subst h; exact fnOk_run KX hlim G F1 {} (at_S P)
  · split
    · rename_i h; subst h; exact fnOk_run KX hlim G F1 {} (at_H P)
    · exact FnOk1.le (fun ds d e => F1 f ds d e) (by decide)
theorem fns3 (KX : (hd.heap_1 P).In h₀) (hlim : h₀.NoLimit) (G : Glo h₀ mg mb) : FnsOk prog w h₀ mg 3 Phi3 := by
  have F2 : FnsOk prog w h₀ mg 2 Phi2 := fns2 KX hlim G
  refine fnsOk_of fun f => ?_
  unfold Phi3
  split
  · rename_i h; subst h; exact fnOk_run KX hlim G F2 {} (at_W P)
  · split
    · rename_i h; subst h; exact fnOk_run KX hlim G F2 {} (at_K P)
    · exact FnOk1.le (fun ds d e => F2 f ds d e) (by decide)
end
end Mine
end
section
open PySem PySem.W PyProof.Rows
set_option maxRecDepth 100000
set_option Elab.async false
set_option maxHeartbeats 4000000
namespace Mine
/-- a def called from a frame with cells: what the frame holds stays -/
theorem enterX {prog : Program} {w : World} {A₀ A : Around} {s : Shared} {base h₀ : Heap} {L : Addr} {m : Str → Option Value} {env : Env} {news : List (Addr × Obj)} {K : Frag} {p : Program} {loose : List Str} {mean : ExcName → Option Value} {mg mb : Str → Option Value}
    {name qual : Str} {params : Arguments} {body : List Stmt} {scope : Scope} {dV kV doc pm cdv ct oc : Value} {an od : Option Addr} {osl : Array (Option Value)} {f : Addr} {vs : List Value} {binds : List (Str × Value)} {Q : Value → Shared → Prop} {E : Value → Shared → Prop}
    (B : Below A₀ base [] h₀) (F : Fr h₀ L s.heap m) (X₀ : K.In h₀) (N : News h₀ L s.heap news) (T : Top p loose mean mg mb h₀) (hA : A.frames = some [env]) (hf : env.frame = some L) (hke : env.scope.kind = .function)
    (ho : K.lookup f = some ⟨oc, od, .func (fnOf name qual params body scope dV kV doc pm an cdv ct), osl⟩) (hcd : codeIn K cdv qual = true) (hroom : A.depth < recursionLimit)
    (hbind : BindsTo s (fnOf name qual params body scope dV kV doc pm an cdv ct) ⟨vs, []⟩ binds) (hloc : ∀ y ∈ binds, scope.names.lookup y.1 = some .local)
    (h : ∀ g L' h₁, Fr h₀ L g m → Fr g L' h₁ (fun y => binds.reverse.lookup y) → News g L' h₁ [] → Below A base [env] g → K.In g → Top p loose mean mg mb g → KtsDicts ([env].filterMap (·.frame)) g →
      wpAny (model prog w) (A.deeper (envOf qual scope L' f cdv)) (execs body (envOf qual scope L' f cdv))
        (fun fl s' => LeaveS0 ([env].filterMap (·.frame)) h₀ L m g (fun r s' => match r with | .ok (.ret v) => Q v s' | .ok _ => False | .error e => E e s') (match fl with | .ret v => v | _ => .none) s')
        (fun e s' => wpAny (model prog w) (A.deeper (envOf qual scope L' f cdv)) (leaving (envOf qual scope L' f cdv) e) (fun _ s'' => E e s'') (fun e' s'' => E e' s'') s')
        { s with heap := h₁, toks := s.toks + binds.length })
    (hcell : ∀ x ∈ scope.names, x.2 ≠ .cell) (hco : scope.isCoroutine = false) (hgen : scope.isGenerator = false) (hk : scope.kind = .function) :
    wpAny (model prog w) A (call (.ref f) vs) (fun v s' => Q v s' ∧ News h₀ L s'.heap news) E s := by
  have X := X₀.keeps F.keep
  obtain ⟨FG, BG, -, -⟩ := groundX (R := fun _ _ => True) B F News.nil hA hf hke
  have hfs : [env].filterMap (·.frame) = [L] := by rw [List.filterMap_cons, hf]; rfl
  obtain ⟨oL, es, ep, hL, hLd, hLk, hLf⟩ := F.ns
  refine wpAny_call (codeAny_call_def (fd := fnOf name qual params body scope dV kV doc pm an cdv ct) (body := body) (binds := binds) hroom (X _ _ ho) rfl (T.nolimit.keeps F.keep) (codeRec_of X hcd) rfl hbind hcell hloc (fun h₁ hns hk₁ => ?_) hco hgen hk)
  refine wpAny_mono (h s.heap s.heap.objs.size h₁ FG ⟨hns, hk₁, Nat.le_refl _⟩ News.nil BG X (T.keeps F.keep) (fun b hb => ?_)) (fun fl s' hl => ?_) fun _ _ y => y
  · rw [hfs, List.mem_singleton] at hb
    subst hb
    exact ⟨oL, es, ep, hL, hLd⟩
  · obtain ⟨g', L', m', news', T', F', N', k⟩ := hl
    rw [hfs] at T'
    obtain ⟨sl, hs⟩ := T'.up hL
    have stay : ∀ b o, s.heap.get? b = some o → b ≠ L → s'.heap.get? b = some o := fun b o e n => F'.keep b o (T'.other b o e fun q => n (List.mem_singleton.mp q))
    have nL : h₀.get? L = none := kts_self F
    refine ⟨k ⟨⟨_, es, ep, F'.keep _ _ hs, hLd, hLk, hLf⟩, fun b o e => stay b o (F.keep b o e) (fun q => ?_), F.above⟩ (fun q hq => ⟨(N' q hq).1, fun z => ?_, ?_⟩), fun q hq => ⟨stay _ _ (N q hq).1 (N q hq).2.1, (N q hq).2⟩⟩
    · rw [q, nL] at e; cases e
    · have := (N' q hq).2.2
      rw [z, hs] at this; cases this
    · cases e : h₀.get? q.1 with
      | none => rfl
      | some o =>
        obtain ⟨sl', hs'⟩ := T'.up (F.keep _ _ e)
        have := (N' q hq).2.2
        rw [hs'] at this; cases this
end Mine
end
section
open PySem PySem.W PyProof.Rows
set_option maxRecDepth 100000
set_option Elab.async false
set_option maxHeartbeats 4000000
namespace Mine
section
variable {prog : Program} {w : World} {h₀ g : Heap} {mg mb : Str → Option Value} {lvl : Nat} {Φ : Fns} {P : Pol} {env : Env}
theorem exs_then (G : Glo h₀ mg mb) (Fs : FnsOk prog w h₀ mg lvl Φ) {b : List Stmt} {Q : Flow → Shared → Prop} {E : Value → Shared → Prop} (a : List Stmt) : ∀ {ρ ρ' : Rho}, exs Φ P env.scope.names a ρ = some (.next, ρ') → ∀ {A : Around} {s : Shared} {Z Y : List Addr} {oa : Str → Addr}, Room A lvl → 0 ≤ s.toks → Fm h₀ g Z env Y oa s.heap ρ →
    (∀ s' Y' oa', Step Y s Y' s' → Fm h₀ g Z env Y' oa' s'.heap ρ' → wpAny (model prog w) A (execs b env) Q E s') → wpAny (model prog w) A (execs (a ++ b) env) Q E s := by
  induction a with
  | nil =>
    intro ρ ρ' h A s Z Y oa rm ht F next
    cases some_i h
    exact next s Y oa (.refl ht) F
  | cons st r ih =>
    intro ρ ρ' h A s Z Y oa rm ht F next
    rw [List.cons_append]
    refine wpAny_execs_cons ?_
    rcases seqO_i h with ⟨ρ1, h1, h2⟩ | ⟨_, hne⟩
    · refine wpAny_mono (st_ok G Fs _ st (Nat.lt_succ_self _) h1 rm ht F E) (fun f s' hd => ?_) fun _ _ x => x
      obtain ⟨Y1, oa1, stp, F1, hf⟩ := hd
      cases hf.next_i
      exact ih h2 rm stp.tk F1 fun s2 Y2 oa2 stp2 F2 => next s2 Y2 oa2 (stp.trans stp2) F2
    · exact absurd rfl hne
end
theorem rep_ints {Z : List Addr} {h : Heap} : ∀ {vs : List Value} {is : List Int}, IntsAre vs is → RepAll Z h vs (is.map .int) := by
  intro vs is x
  induction x with
  | nil => exact .nil
  | cons _ _ _ ih => exact .cons (.int _ _) ih
/-- a frame seen from fewer names -/
theorem Fm.sub {h₀ g h : Heap} {Z Y : List Addr} {env : Env} {oa : Str → Addr} {ρ ρ' : Rho} (F : Fm h₀ g Z env Y oa h ρ) (hs : ∀ e ∈ ρ', ρ.lookup e.1 = some e.2) : Fm h₀ g Z env Y oa h ρ' :=
  have hl : ∀ {x c}, ρ'.lookup x = some c → ρ.lookup x = some c := fun {x c} e => hs (x, c) (lookup_mem e)
  { F with
    dbg := fun x c e => F.dbg x c (hl e)
    val := fun x d e => F.val x d (hl e)
    own := fun x ds e => F.own x ds (hl e)
    ownap := fun x y ds es e e' => F.ownap x y ds es (hl e) (hl e') }
/-- a frame with one name and two cells -/
theorem fm_one {h₀ h : Heap} {env : Env} {m : Str → Option Value} {x n1 n2 : Str} {v : Value} {d : D} {o1 o2 : Obj} {v1 v2 : Option Value} (st : Sta env) (hL : env.locals = h₀.objs.size) (hc : env.cells = [(n1, h₀.objs.size + 1 + 1), (n2, h₀.objs.size + 1)]) (F : Fr h₀ h₀.objs.size h m)
    (N : News h₀ h₀.objs.size h [(h₀.objs.size + 1 + 1, o1), (h₀.objs.size + 1, o2)]) (e1 : o1.data = .cell v1) (e2 : o2.data = .cell v2) (hk : env.kindOf x = some .local) (hx : (x == ("__debug__" : Str)) = false) (hm : m x = some v) (r : Rep [h₀.objs.size, h₀.objs.size + 1 + 1, h₀.objs.size + 1] h v d) :
    Fm h₀ h₀ [] env [h₀.objs.size, h₀.objs.size + 1 + 1, h₀.objs.size + 1] (fun _ => 0) h [(x, .val d)] :=
  have g1 := N (h₀.objs.size + 1 + 1, o1) (.head _)
  have g2 := N (h₀.objs.size + 1, o2) (.tail _ (.head _))
  { sta := st
    zin := fun z hz => by
      rw [List.append_nil] at hz
      simp only [List.mem_cons, List.not_mem_nil, or_false] at hz
      rcases hz with rfl | rfl | rfl
      · obtain ⟨o, _, _, ho, _⟩ := F.ns
        exact ⟨o, ho⟩
      · exact ⟨o1, g1.1⟩
      · exact ⟨o2, g2.1⟩
    old := .refl _
    keep := F.keep
    fresh := fun b hb => by
      simp only [List.mem_cons, List.not_mem_nil, or_false] at hb
      rcases hb with rfl | rfl | rfl
      · exact Heap.get?_none_of_le (Nat.le_refl _)
      · exact Heap.get?_none_of_le (Nat.le_succ_of_le (Nat.le_succ _))
      · exact Heap.get?_none_of_le (Nat.le_succ _)
    dis := fun b _ h => nomatch h
    loc := by rw [hL]; exact .head _
    ns := ⟨m, by rw [hL]; exact F.ns⟩
    cell := fun n c e => by
      rw [hc, List.lookup_cons] at e
      split at e
      · cases e; exact ⟨.tail _ (.head _), v1, o1, g1.1, e1⟩
      · rw [List.lookup_cons] at e
        split at e
        · cases e; exact ⟨.tail _ (.tail _ (.head _)), v2, o2, g2.1, e2⟩
        · cases e
    dbg := fun y c e => by
      rw [List.lookup_cons] at e
      split at e
      · rename_i h; rw [eq_of_beq h]; exact hx
      · cases e
    val := fun y d' e => by
      rw [List.lookup_cons] at e
      split at e
      · rename_i h
        rw [eq_of_beq h]
        simp only [Option.some.injEq, Cell.val.injEq] at e
        subst e
        exact ⟨v, .inl ⟨hk, m, by rw [hL]; exact F.ns, hm⟩, by simpa using r⟩
      · cases e
    own := fun y ds e => by
      rw [List.lookup_cons] at e
      split at e
      · simp at e
      · cases e
    ownap := fun y z ds es e _ _ => by
      rw [List.lookup_cons] at e
      split at e
      · simp at e
      · cases e }
theorem rep_s {Z : List Addr} {h : Heap} {v : Value} {x : Str} (r : Rep Z h v (.str x)) : ∃ t, v = .str x t := by
  cases r with | str _ t => exact ⟨t, rfl⟩
theorem reps_s2 {Z : List Addr} {h : Heap} {vs : List Value} {x y : Str} (r : RepAll Z h vs [.str x, .str y]) : ∃ t u, vs = [.str x t, .str y u] := by
  cases r with | cons a r =>
  cases r with | cons b r =>
  cases r
  obtain ⟨t, rfl⟩ := rep_s a
  obtain ⟨u, rfl⟩ := rep_s b
  exact ⟨t, u, rfl⟩
theorem st13 : ∃ q1 q2 q3 q4 B, bL.drop 13 = Stmt.If (.UnaryOp .Not (.Call (.Name (Str.ofString "_law_refused") q1) argsR [] q2) q3) B [] q4 :: bL.drop 14 := ⟨_, _, _, _, _, rfl⟩
theorem nL_fref : nL.lookup (Str.ofString "_law_refused") = some .globalImplicit := by decide +kernel
theorem nL_rest' : nL.lookup (Str.ofString "rest") = some .local := by decide +kernel
theorem nL_script' : nL.lookup (Str.ofString "script") = some .local := by decide +kernel
theorem ref_at (P : Params) : nsIn (hd.heap_1 P) mainGlobals (Str.ofString "_law_refused") = some (some (.ref 130)) := by kernel_rfl
noncomputable def lawEnv (nm : Str) (L fa : Addr) (cd : Value) : Env := envOfC nm (fscope p1 20) L fa cd
theorem law_names (nm : Str) (L fa : Addr) (cd : Value) : (lawEnv nm L fa cd).scope.names = nL := by
  unfold nL; rw [fnames_eq]; rfl
theorem law_cells (nm : Str) (L fa : Addr) (cd : Value) : (lawEnv nm L fa cd).cells = [(Str.ofString "rows", L + 1 + 1), (Str.ofString "number", L + 1)] := by
  show cellsFrom (L + 1) (fscope p1 20).names [] = _
  rw [← fnames_eq]
  kernel_rfl
theorem law_sta (nm : Str) (L fa : Addr) (cd : Value) : Sta (lawEnv nm L fa cd) where
  kind := by show (fscope p1 20).kind = .function; decide +kernel
  glob := rfl
  bi := rfl
  ce := fun y e => Option.isSome_iff_exists.mp (W.cellsFrom_some _ _ _ (.inl e))
  apart := fun n n' c h h' => by
    rw [law_cells] at h h'
    exact name_of_addr (List.pairwise_cons.mpr ⟨fun x hx => by rw [List.mem_singleton.mp hx]; exact Nat.succ_ne_self _, List.pairwise_singleton ..⟩) (lookup_mem h) (lookup_mem h')
theorem ns_uniq {h : Heap} {a : Addr} {m m' : Str → Option Value} (x : h.Ns a m) (y : h.Ns a m') : m = m' := by
  obtain ⟨o, es, ep, ho, hd, _, hf⟩ := x
  obtain ⟨o', es', ep', ho', hd', _, hf'⟩ := y
  rw [ho] at ho'
  cases ho'
  rw [hd] at hd'
  cases hd'
  funext n
  rw [← hf, ← hf']
theorem room_law (env : Env) : Room (callerA.deeper env) 3 := Room.deeper (n := 3) ⟨rfl, by decide, by decide⟩ env
theorem getV_lookup {ρ : Rho} {x : Str} {d : D} (h : getV ρ x = some d) : ρ.lookup x = some (.val d) := valO_i h
theorem arg_ok (C0 C1 C2 C3 C4 : Nat) (y : List Nat) (hy : y.length ≤ 200) (ρ : Rho) (hcs : getV ρ (Str.ofString "cells") = some (.list (csD C0 C1 C2 C3 C4))) (hr : getV ρ (Str.ofString "rest") = some (.str (sl (32 :: y)))) :
    ∃ x, evs Phi3 argsR nL ρ = some [.str x, .str (sl (32 :: y))] ∧ (x.length ≤ 1000 ∧ (sl (32 :: y)).length ≤ 1000) ∧ Not257 (x ++ sl (32 :: y)) := by
  have h1 := mod_nat C4 999 (by decide)
  have h2 : binop .Mod (.int (258 + ((C4 % 999 : Nat) : Int))) (.int 1000) = some (.int (((258 + C4 % 999) % 1000 : Nat) : Int)) := by
    rw [bo_modI (by decide), Int.fmod_eq_emod_of_nonneg _ (by decide)]; rfl
  have hlt : (258 + C4 % 999) % 1000 < 1000 := Nat.mod_lt _ (by decide)
  have hne : (258 + C4 % 999) % 1000 ≠ 257 := by omega
  generalize (258 + C4 % 999) % 1000 = n at h2 hlt hne
  have hl := dgs_len n
  refine ⟨sl (dgs n), wL_args Phi3 (C4 : Int) _ _ (dgs n) _ _ ρ hcs hr (cs4 ..) h1 h2 (str_n n hlt), ⟨by rw [sl_len]; omega, by rw [sl_len, List.length_cons]; omega⟩, ?_⟩
  rw [sl_app]
  refine ⟨_, sliceS pt_none (pt_int (i := 3) (by decide) (by decide)) (le_cap (by simp; omega)), ?_⟩
  rw [show ((3 : Int)) = ((3 : Nat) : Int) from rfl, pk_take, show Str.ofString "257" = sl [50, 53, 55] by decide +kernel]
  intro e
  rw [sl_inj] at e
  exact dgs_257 n y hne e
theorem bL_split : bL = bL.take 3 ++ ((bL.drop 3).take 1 ++ ((bL.drop 4).take 5 ++ ((bL.drop 9).take 3 ++ ((bL.drop 12).take 1 ++ bL.drop 13)))) := rfl
section
variable {prog : Program} {w : World} {s₁ : Shared} {mg mb mean : Str → Option Value} {fa : Addr} {cd : Value} {nm : Str}
theorem finish2 (KX : (hd.heap_1 w.params).In s₁.heap) (hlim : s₁.heap.NoLimit) (G : Glo s₁.heap mg mb)
    {h₁ : Heap} {tk : Tok} {l : Addr} {vs : List Value} {ns : List Int} {m₀ : Str → Option Value} {Q : Flow → Shared → Prop} {E : Value → Shared → Prop} {c1 c2 : Obj} {u1 u2 : Option Value}
    (F : Fr s₁.heap s₁.heap.objs.size h₁ m₀) (N0 : News s₁.heap s₁.heap.objs.size h₁ [(s₁.heap.objs.size + 1 + 1, c1), (s₁.heap.objs.size + 1, c2)]) (hc1 : c1.data = .cell u1) (hc2 : c2.data = .cell u2)
    (hm : m₀ (Str.ofString "script") = some (.ref l)) (hL : s₁.heap.IsList l vs.toArray) (hI : IntsAre vs ns) (hlen : ns.length ≤ 63) (htk : 0 ≤ tk)
    (ref : ∀ h tk m o1 o2 v1 v2 x y t u, Fr s₁.heap s₁.heap.objs.size h m → News s₁.heap s₁.heap.objs.size h [(s₁.heap.objs.size + 1 + 1, o1), (s₁.heap.objs.size + 1, o2)] → o1.data = .cell v1 → o2.data = .cell v2 → x.length ≤ 1000 → y.length ≤ 1000 → Not257 (x ++ y) → ∀ E, wpAny (model prog w) (callerA.deeper (lawEnv nm s₁.heap.objs.size fa cd)) (call (.ref 130) [.str x t, .str y u])
      (fun v s' => (v = .bool true ∧ ∃ h' tk', s' = { s₁ with heap := h', toks := tk' } ∧ Fr s₁.heap s₁.heap.objs.size h' m) ∧ News s₁.heap s₁.heap.objs.size s'.heap [(s₁.heap.objs.size + 1 + 1, o1), (s₁.heap.objs.size + 1, o2)]) E { s₁ with heap := h, toks := tk })
    (fin : ∀ m h' tk', Fr s₁.heap s₁.heap.objs.size h' m → Q (.ret (.bool true)) { s₁ with heap := h', toks := tk' }) :
    wpAny (model prog w) (callerA.deeper (lawEnv nm s₁.heap.objs.size fa cd)) (execs bL (lawEnv nm s₁.heap.objs.size fa cd)) Q E { s₁ with heap := h₁, toks := tk } := by
  have Fs : FnsOk prog w s₁.heap mg 3 Phi3 := fns3 KX hlim G
  have rm : Room (callerA.deeper (lawEnv nm s₁.heap.objs.size fa cd)) 3 := room_law _
  have sta := law_sta nm s₁.heap.objs.size fa cd
  have hnm := law_names nm s₁.heap.objs.size fa cd
  have hbl : execs bL (lawEnv nm s₁.heap.objs.size fa cd) = execs (bL.take 3 ++ ((bL.drop 3).take 1 ++ ((bL.drop 4).take 5 ++ ((bL.drop 9).take 3 ++ ((bL.drop 12).take 1 ++ bL.drop 13))))) (lawEnv nm s₁.heap.objs.size fa cd) := congrArg (fun b => execs b (lawEnv nm s₁.heap.objs.size fa cd)) bL_split
  have hloc : (lawEnv nm s₁.heap.objs.size fa cd).locals = s₁.heap.objs.size := rfl
  have hcel := law_cells nm s₁.heap.objs.size fa cd
  have hkn : ∀ x, (lawEnv nm s₁.heap.objs.size fa cd).kindOf x = (lawEnv nm s₁.heap.objs.size fa cd).scope.names.lookup x := fun _ => rfl
  rw [hbl]
  generalize lawEnv nm s₁.heap.objs.size fa cd = env at *
  obtain ⟨C0, C1, C2, C3, C4, hC⟩ := big_C ns hlen
  obtain ⟨N, M, hN, HA, runA⟩ := law_A (ns.map .int) C0 C1 C2 C3 C4 hC
  obtain ⟨N', M', tB, hN', HB, runB⟩ := law_B C0 C1 C2 C3 C4 N M hN HA
  obtain ⟨b1, b2, b3⟩ := dec_bounds HB.num hN'
  obtain ⟨c, pw, du, hc, runC⟩ := law_C C0 C1 C2 C3 C4 N' M' hN' HB
  have hG := hooks3 M' (by omega) (fun x hx => by have := b2 x hx; omega)
  rw [← falls_hooks M' HB.dec] at hG
  obtain ⟨tD, runD⟩ := run_9 (half3 c hc) (csD C0 C1 C2 C3 C4) (rowsM M') (plcS 0 M') (fun p hp => by have := b3 p hp; omega) (by rw [plcS_len]; omega) hG
  have hlr : builtin? (Str.ofString "len") [.list (rowsM M')] = some (.int (M'.length : Nat)) := by
    rw [lenL (by rw [rowsM_len]; exact le_cap (by omega)), rowsM_len]
  have runE := wL_rest Phi3 (csD C0 C1 C2 C3 C4) (rowsM M') c M'.length hlr (by omega)
  rw [← hnm] at runA runB runC runD runE
  have F0 : Fm s₁.heap s₁.heap [] env [s₁.heap.objs.size, s₁.heap.objs.size + 1 + 1, s₁.heap.objs.size + 1] (fun _ => 0) h₁ [vL "script" (ns.map .int)] :=
    fm_one sta hloc hcel F N0 hc1 hc2 (by rw [hkn, hnm]; exact nL_script') (by decide +kernel) hm (.list (by
      intro e
      obtain ⟨o, ho, _⟩ := hL
      simp only [List.mem_cons, List.not_mem_nil, or_false] at e
      have hn : s₁.heap.get? l = none := by
        rcases e with rfl | rfl | rfl
        · exact Heap.get?_none_of_le (Nat.le_refl _)
        · exact Heap.get?_none_of_le (Nat.le_succ_of_le (Nat.le_succ _))
        · exact Heap.get?_none_of_le (Nat.le_succ _)
      rw [hn] at ho
      cases ho) (let ⟨o, ho, r⟩ := hL; ⟨o, F.keep _ _ ho, r⟩) (rep_ints hI))
  refine exs_then G Fs (bL.take 3) runA rm htk (s := { s₁ with heap := h₁, toks := tk }) F0 fun sA YA oaA stA FA => ?_
  have FA' := FA.sub (ρ' := [vL "cells" (csD C0 C1 C2 C3 C4), vI "number" (N : Int), vL "rows" (rowsM M)]) (by
    intro e he
    simp only [List.mem_cons, List.not_mem_nil, or_false] at he
    rcases he with rfl | rfl | rfl <;> simp only [lookup_s, String.reduceEq, if_true, if_false])
  refine exs_then G Fs ((bL.drop 3).take 1) runB rm stA.tk FA' fun sB YB oaB stB FB => ?_
  have FB' := FB.sub (ρ' := [vL "cells" (csD C0 C1 C2 C3 C4), vI "number" (N' : Int), vL "rows" (rowsM M')]) (by
    intro e he
    simp only [List.mem_cons, List.not_mem_nil, or_false] at he
    rcases he with rfl | rfl | rfl <;> simp only [List.cons_append, lookup_s, String.reduceEq, if_true, if_false])
  refine exs_then G Fs ((bL.drop 4).take 5) runC rm stB.tk FB' fun sC YC oaC stC FC => ?_
  have FC' := FC.sub (ρ' := [vL "cells" (csD C0 C1 C2 C3 C4), vL "rows" (rowsM M'), vS "sign" (sl [c]), vL "places" (intsD (plcS 0 M'))]) (by
    intro e he
    simp only [List.mem_cons, List.not_mem_nil, or_false] at he
    rcases he with rfl | rfl | rfl | rfl <;> simp only [lookup_s, String.reduceEq, if_true, if_false])
  refine exs_then G Fs ((bL.drop 9).take 3) runD rm stC.tk FC' fun sD YD oaD stD FD => ?_
  have FD' := FD.sub (ρ' := [vL "cells" (csD C0 C1 C2 C3 C4), vL "rows" (rowsM M'), vS "sign" (sl [c])]) (by
    intro e he
    simp only [List.mem_cons, List.not_mem_nil, or_false] at he
    rcases he with rfl | rfl | rfl <;> simp only [List.cons_append, lookup_s, String.reduceEq, if_true, if_false])
  refine exs_then G Fs ((bL.drop 12).take 1) runE rm stD.tk FD' fun s' Y' oa' stE F' => ?_
  have stp := (((stA.trans stB).trans stC).trans stD).trans stE
  obtain ⟨q1, q2, q3, q4, B, hst⟩ := st13
  rw [hst]
  obtain ⟨x, hx, ⟨hxl, hyl⟩, hN⟩ := arg_ok C0 C1 C2 C3 C4 (34 :: (List.replicate M'.length 34 ++ [c])) (by rw [List.length_cons, List.length_append, List.length_replicate]; simp; omega) [vL "cells" (csD C0 C1 C2 C3 C4), vL "rows" (rowsM M'), vS "sign" (sl [c]), vS "rest" (sl (32 :: 34 :: (List.replicate M'.length 34 ++ [c])))] (by simp only [getV_val, String.reduceEq, if_true, if_false]) (by simp only [getV_val, String.reduceEq, if_true, if_false])
  refine wpAny_execs_cons (wpAny_If (wpAny_isTrue_Not (isTrue_plain ?_)))
  show wpAny _ _ (eval (.Name (Str.ofString "_law_refused") q1) env >>= fun fv => callWith q2 fv [] (backTo q2 (starEach argsR env)) (backToKw q2 (keywordEach [] env))) _ _ s'
  refine wpAny_bind ?_
  have hev := evs_ok G Fs argsR (nm := nL) hx rm stp.tk (by have := F'.env_; rw [hnm] at this; exact this) q2
  obtain ⟨o, ho⟩ : ∃ o fd, s₁.heap.get? 130 = some o ∧ o.data = .func fd := by
    obtain ⟨o, pm, cd, doc, ho, hd, hc⟩ := (at_X w.params).obj
    exact ⟨o, _, KX _ _ ho, hd⟩
  obtain ⟨fd, ho, hod⟩ := ho
  refine eval_fn G F'.env_ (by rw [hnm]; exact nL_fref) (by decide +kernel) (mg_of KX G.g (ref_at w.params)) (callWith_f (by rfl) (then_ stp.tk hev fun vs s2 k2 t2 r2 => ⟨⟨o, fd, (F'.keep.trans k2.ext) _ _ ho, hod⟩, ?_⟩))
  obtain ⟨t, u, rfl⟩ := reps_s2 r2
  have F2 := F'.ext k2.ext
  obtain ⟨m2, hm2⟩ := F2.ns
  rw [hloc] at hm2
  have FR : Fr s₁.heap s₁.heap.objs.size s2.heap m2 := ⟨hm2, F2.keep, F.above⟩
  obtain ⟨_, v1, o1, g1, e1⟩ := F2.cell (Str.ofString "rows") (s₁.heap.objs.size + 1 + 1) (by rw [hcel]; rfl)
  obtain ⟨_, v2, o2, g2, e2⟩ := F2.cell (Str.ofString "number") (s₁.heap.objs.size + 1) (by rw [hcel]; rfl)
  have NR : News s₁.heap s₁.heap.objs.size s2.heap [(s₁.heap.objs.size + 1 + 1, o1), (s₁.heap.objs.size + 1, o2)] := by
    have old : ∀ a, s₁.heap.objs.size ≤ a → s₁.heap.get? a = none := fun a ha => Heap.get?_none_of_le ha
    intro p hp
    simp only [List.mem_cons, List.not_mem_nil, or_false] at hp
    rcases hp with rfl | rfl
    · exact ⟨g1, Nat.ne_of_gt (Nat.lt_succ_of_lt (Nat.lt_succ_self _)), old _ (Nat.le_succ_of_le (Nat.le_succ _))⟩
    · exact ⟨g2, Nat.succ_ne_self _, old _ (Nat.le_succ _)⟩
  obtain ⟨v, hv, rv⟩ := F2.val (Str.ofString "rest") (.str (sl (32 :: 34 :: (List.replicate M'.length 34 ++ [c])))) (by simp only [lookup_s, String.reduceEq, if_true, if_false])
  have hms : m2 (Str.ofString "rest") = some v := by
    rcases hv with ⟨_, m', hm', hv'⟩ | ⟨hk, _⟩
    · rw [hloc] at hm'
      rw [ns_uniq hm2 hm']; exact hv'
    · rw [hkn, hnm, nL_rest'] at hk; cases hk
  have hs2 : ∃ h2 tk2, s2 = { s₁ with heap := h2, toks := tk2 } := by
    obtain ⟨h3, t3, e3⟩ := stp.sh
    obtain ⟨h4, t4, e4, _⟩ := k2
    exact ⟨h4, t4, by rw [e4, e3]⟩
  obtain ⟨h2, tk2, rfl⟩ := hs2
  refine wpAny_mono (wpAny_toks_of t2 (ref h2 tk2 m2 o1 o2 v1 v2 x _ t u FR NR e1 e2 hxl hyl hN E)) (fun v' s3 h3 => ?_) fun _ _ x => x.2
  obtain ⟨t3, ⟨rfl, h', tk', rfl, FR'⟩, NR'⟩ := h3
  refine wpAny_truthy_bool ?_
  refine wpAny_execs_nil ?_
  have F3 : Fm s₁.heap s₁.heap [] env [s₁.heap.objs.size, s₁.heap.objs.size + 1 + 1, s₁.heap.objs.size + 1] (fun _ => 0) h' [vS "rest" (sl (32 :: 34 :: (List.replicate M'.length 34 ++ [c])))] :=
    fm_one sta hloc hcel FR' NR' e1 e2 (by rw [hkn, hnm]; exact nL_rest') (by decide +kernel) hms (by cases rv; exact .str _ _)
  have hll : (List.replicate M'.length 34 ++ [c]).length ≤ 100 := by rw [List.length_append, List.length_replicate]; simp; omega
  have hq : ∃ b y, List.replicate M'.length 34 ++ [c] = b :: y ∧ y.length ≤ 100 := by
    cases hz : List.replicate M'.length 34 ++ [c] with
    | nil => rw [List.append_eq_nil_iff] at hz; cases hz.2
    | cons b y => exact ⟨b, y, rfl, by rw [hz, List.length_cons] at hll; omega⟩
  obtain ⟨b0, y0, hy0, hy1⟩ := hq
  have hlast := wL_last Phi3 c M'.length (by omega) (by rw [hy0]; exact parse30 34 b0 y0 (by omega) (by simp)) (parse30 32 120 _ (by rw [List.length_cons]; omega) (by simp))
  rw [← hnm] at hlast
  refine wpAny_mono (exs_ok G Fs (bL.drop 14) hlast rm t3 F3 E) (fun f s4 h4 => ?_) fun _ _ x => x
  obtain ⟨Y4, oa4, stp4, F4, hf⟩ := h4
  cases f with
  | ret v4 =>
    have hf' : Rep _ _ v4 (.bool true) := hf
    cases hf'
    obtain ⟨m4, hm4⟩ := F4.ns
    rw [hloc] at hm4
    obtain ⟨h5, t5, rfl⟩ := stp4.sh
    exact fin m4 _ _ ⟨hm4, F4.keep, F.above⟩
  | _ => exact False.elim hf
end
end Mine
end
section
open PySem PySem.W PyProof.Rows
set_option Elab.async false
set_option maxRecDepth 100000
set_option maxHeartbeats 8000000
namespace Mine
theorem finish3 {prog : Program} {w : World} {s₁ : Shared} {p : Program} {loose : List Str} {mean : ExcName → Option Value} {mg mb : Str → Option Value} {fa : Addr} {cd : Value} {nm : Str} {b : List Stmt} {sc : Scope} (hb : b = Mine.bL) (hs : sc = Mine.fscope Mine.p1 20)
    (KX : (hd.heap_1 w.params).In s₁.heap) (T : Top p loose mean mg mb s₁.heap)
    {h₁ : Heap} {tk : Tok} {l : Addr} {vs : List Value} {ns : List Int} {m₀ : Str → Option Value} {Q : Flow → Shared → Prop} {E : Value → Shared → Prop} {c1 c2 : Obj} {u1 u2 : Option Value}
    (F : Fr s₁.heap s₁.heap.objs.size h₁ m₀) (N0 : News s₁.heap s₁.heap.objs.size h₁ [(s₁.heap.objs.size + 1 + 1, c1), (s₁.heap.objs.size + 1, c2)]) (hc1 : c1.data = .cell u1) (hc2 : c2.data = .cell u2)
    (hm : m₀ (Str.ofString "script") = some (.ref l)) (hL : s₁.heap.IsList l vs.toArray) (hI : IntsAre vs ns) (hlen : ¬ ((63 : Nat) : Int) < (ns.length : Int)) (htk : 0 ≤ tk)
    (ref : ∀ h tk m o1 o2 v1 v2 x y t u, Fr s₁.heap s₁.heap.objs.size h m → News s₁.heap s₁.heap.objs.size h [(s₁.heap.objs.size + 1 + 1, o1), (s₁.heap.objs.size + 1, o2)] → o1.data = .cell v1 → o2.data = .cell v2 → x.length ≤ 1000 → y.length ≤ 1000 → Mine.Not257 (x ++ y) → ∀ E, wpAny (model prog w) (callerA.deeper (envOfC nm sc s₁.heap.objs.size fa cd)) (call (.ref 130) [.str x t, .str y u])
      (fun v s' => (v = .bool true ∧ ∃ h' tk', s' = { s₁ with heap := h', toks := tk' } ∧ Fr s₁.heap s₁.heap.objs.size h' m) ∧ News s₁.heap s₁.heap.objs.size s'.heap [(s₁.heap.objs.size + 1 + 1, o1), (s₁.heap.objs.size + 1, o2)]) E { s₁ with heap := h, toks := tk })
    (fin : ∀ m h' tk', Fr s₁.heap s₁.heap.objs.size h' m → Q (.ret (.bool true)) { s₁ with heap := h', toks := tk' }) :
    wpAny (model prog w) (callerA.deeper (envOfC nm sc s₁.heap.objs.size fa cd)) (execs b (envOfC nm sc s₁.heap.objs.size fa cd)) Q E { s₁ with heap := h₁, toks := tk } := by
  subst hb hs
  exact Mine.finish2 KX T.nolimit (Mine.glo_of KX T (Mine.glo_ok w.params)) F N0 hc1 hc2 hm hL hI (by omega) htk ref fin
end Mine
local macro_rules | `(tactic| walk_at "isTrue Compare") => `(tactic| (k_here; k_dflt (refine' Mine.test_257 ?F ?N ?x ?m ?r rfl rfl ?_; (case F => k_asm); (case N => k_asm); (case x => assumption); (case m => rfl); (case r => exact ⟨rfl, Nat.le_of_ble_eq_true rfl, Nat.le_of_ble_eq_true rfl⟩)); intro h' tk' F' N'; (try k_sweep)))
local macro_rules | `(tactic| walk_at "call type:str") => `(tactic| (k_here; k_dflt (refine' Mine.str_got_own ?F ?X ?N ?G ?u ?s ?m ?_; (case G => assumption); (case F => k_asm); (case N => assumption); (case X => k_in); (case u => k_units); (case s => k_is); (case m => k_is))))
local macro_rules | `(tactic| k_qdec) => `(tactic| decide +kernel)
theorem PySem.Challenge.cw_xc0004_01_holds : PySem.Challenge.rw_xc0004_01.Holds := by
  refine Mine.hd ?_
  w_strict (k_go0; (all_goals try k_fold); refine' Mine.finish3 ?hb ?hs ?KX ?T ?F ?N0 ?hc1 ?hc2 ?hm ?hL ?hI ?hlen ?htk ?ref ?fin; (case hb => kernel_rfl); (case hs => kernel_rfl); (case KX => assumption); (case T => assumption); (case F => assumption); (case N0 => assumption); (case hc1 => assumption); (case hc2 => assumption); (case hm => rfl); (case hL => assumption); (case hI => assumption); (case hlen => assumption); (case htk => exact Nat.zero_le _); (case fin => (intro m h' tk' F'; refine goodW_bool F' (by assumption) (raisesW_false ?_) ?_; (· wrow_none_raised); (· wrow_post))); intro h tk m o1 o2 v1 v2 x y t u FR NR e1 e2 hxl hyl hN E; refine' Mine.enterX ?exB ?exF ?exX ?exN ?exTT ?exhA ?exhf ?exhke ?exho ?exhcd ?exhroom ?exhb ?exhloc ?exh ?exc1 ?exc2 ?exc3 ?exc4; (case exF => assumption); (case exB => assumption); (case exX => assumption); (case exN => assumption); (case exTT => assumption); (case exhA => exact rfl); (case exhf => exact rfl); (case exhke => exact rfl); (case exho => k_is); (case exhcd => k_is); (case exhroom => k_room); (case exhb => first | exact binds_K (by k_in) rfl (by k_is) rfl rfl rfl | exact BindsTo.of_eq rfl); (case exhloc => exact locs rfl); (case exc1 => decide); (case exc2 => exact rfl); (case exc3 => exact rfl); (case exc4 => exact rfl); clear NR e1 e2; intro g' L' h' FG' F' N' B' X' T' D'; (try dsimp only); (try k_lift B'); (try k_fold); k_steps; (all_goals (first | assumption | exact congrArg Value.bool (beq_self_eq_true _) | trace_state)))
end
