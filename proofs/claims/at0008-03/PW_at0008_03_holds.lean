import PyProof.Rows.All
import Wide.All
import OpenK.AllK
import Wide.FinOn
import PySem.Challenge.RW_at0008_03
set_option Elab.async false
set_option autoImplicit false
set_option linter.unusedVariables false
set_option linter.unusedSimpArgs false
set_option genInjectivity false
set_option genSizeOfSpec false

section
open PySem
namespace Mine
set_option genInjectivity false
set_option genSizeOfSpec false

/-- constants of the small language -/
inductive C0 where
  | none
  | bool (b : Bool)
  | int (i : Int)
  | str (s : String)

/-- a written text's signs -/
noncomputable def lit (s : String) : List Nat := (Str.ofString s).cps.toList

/-- the built-in functions that the texts call -/
inductive Bi where
  | len | abs | min | range | list
noncomputable def Bi.name : Bi → String
  | .len => "len" | .abs => "abs" | .min => "min" | .range => "range" | .list => "list"
/-- the methods that the texts call -/
inductive Mt where
  | replace | get | join
noncomputable def Mt.name : Mt → String
  | .replace => "replace" | .get => "get" | .join => "join"

mutual
/-- expressions of the small language: what the law's text uses -/
inductive ME where
  | loc (i : Nat) (p : Pos)
  | glob (g : Nat) (p : Pos)
  | cst (c : C0) (p : Pos)
  | bin (op : Operator) (l r : ME) (p : Pos)
  | cmp (op : CmpOp) (l r : ME) (p : Pos)
  | and2 (l r : ME) (p : Pos)
  | or2 (l r : ME) (p : Pos)
  | and3 (l c r : ME) (p : Pos)
  | isNil (e : ME) (lp p : Pos)
  | lrange (np rp : Pos) (e : ME) (ap p : Pos)
  | not (e : ME) (p : Pos)
  | neg (e : ME) (p : Pos)
  | ite (t b o : ME) (p : Pos)
  | idx (e i : ME) (p : Pos)
  | slice (e : ME) (lo hi : MO) (sp p : Pos)
  | call (f : ME) (as : MEs) (p : Pos)
  | bcall (n : Bi) (np : Pos) (as : MEs) (p : Pos)
  | meth (n : Mt) (self : ME) (ap : Pos) (as : MEs) (p : Pos)
  | list (es : MEs) (p : Pos)
  | comp (elt : ME) (x : Nat) (xp : Pos) (it : ME) (t : MO) (scope : Scope) (p : Pos)
  | dict (sp : MO) (ks vs : MEs) (p : Pos)
inductive MEs where
  | nil
  | cons (e : ME) (r : MEs)
inductive MO where
  | no
  | yes (e : ME)
end

mutual
inductive MS where
  | asg (i : Nat) (tp : Pos) (e : ME) (p : Pos)
  | asgc (i : Nat) (tp : Pos) (e : ME) (p : Pos)
  | asg2 (i j : Nat) (tpi tpj tp : Pos) (a b : ME) (vp p : Pos)
  | sets (o i : ME) (tp : Pos) (e : ME) (p : Pos)
  | ite (t : ME) (b o : MSs) (p : Pos)
  | for1 (x : Nat) (xp : Pos) (it : ME) (b : MSs) (p : Pos)
  | rep (s k v d : Nat) (kp vp tp dp ap cp tp2 sp mp k2 v2 rp ap2 p : Pos)
  | ret (e : ME) (p : Pos)
  | app (o e : ME) (ap cp p : Pos)
inductive MSs where
  | nil
  | cons (s : MS) (r : MSs)
end

noncomputable def C0.back : C0 → Const
  | .none => .none
  | .bool b => .bool b
  | .int i => .int i
  | .str s => .str (Str.ofString s)

/-- what the small language's program says of the names -/
structure Nm where
  slots : List Str
  globs : List Str

mutual
noncomputable def ME.back (N : Nm) : ME → Expr
  | .loc i p => .Name (N.slots.getD i default) p
  | .glob g p => .Name (N.globs.getD g default) p
  | .cst c p => .Constant c.back 0 p
  | .bin op l r p => .BinOp (l.back N) op (r.back N) p
  | .cmp op l r p => .Compare (l.back N) [op] [r.back N] p
  | .and2 l r p => .BoolOp .And [l.back N, r.back N] p
  | .or2 l r p => .BoolOp .Or [l.back N, r.back N] p
  | .and3 l c r p => .BoolOp .And [l.back N, c.back N, r.back N] p
  | .isNil e lp p => .Compare (e.back N) [.Eq] [.List [] lp] p
  | .lrange np rp e ap p => .Call (.Name (Str.ofString Bi.list.name) np) [.Call (.Name (Str.ofString Bi.range.name) rp) [e.back N] [] ap] [] p
  | .not e p => .UnaryOp .Not (e.back N) p
  | .neg e p => .UnaryOp .USub (e.back N) p
  | .ite t b o p => .IfExp (t.back N) (b.back N) (o.back N) p
  | .idx e i p => .Subscript (e.back N) (i.back N) p
  | .slice e lo hi sp p => .Subscript (e.back N) (.Slice (lo.back N) (hi.back N) none sp) p
  | .call f as p => .Call (f.back N) (as.back N) [] p
  | .bcall n np as p => .Call (.Name (Str.ofString n.name) np) (as.back N) [] p
  | .meth n self ap as p => .Call (.Attribute (self.back N) (Str.ofString n.name) ap) (as.back N) [] p
  | .list es p => .List (es.back N) p
  | .comp elt x xp it t scope p => .ListComp (elt.back N) [⟨.Name (N.slots.getD x default) xp, it.back N, t.tests N, 0⟩] scope p
  | .dict sp ks vs p => match sp with
    | .no => .Dict (ks.backSome N) (vs.back N) p
    | .yes sp => .Dict (none :: ks.backSome N) (sp.back N :: vs.back N) p
noncomputable def MO.back (N : Nm) : MO → Option Expr
  | .no => none
  | .yes e => some (e.back N)
noncomputable def MO.tests (N : Nm) : MO → List Expr
  | .no => []
  | .yes e => [e.back N]
noncomputable def MEs.back (N : Nm) : MEs → List Expr
  | .nil => []
  | .cons e r => e.back N :: r.back N
noncomputable def MEs.backSome (N : Nm) : MEs → List (Option Expr)
  | .nil => []
  | .cons e r => some (e.back N) :: r.backSome N
end

noncomputable def C0.strOf : C0 → Option String
  | .str s => some s
  | _ => .none
noncomputable def ME.cstOf : ME → Option C0
  | .cst c _ => some c
  | _ => .none
noncomputable def ME.strOf (e : ME) : Option String := e.cstOf.bind C0.strOf
noncomputable def MEs.two : MEs → Option (ME × MEs)
  | .cons a r => some (a, r)
  | .nil => .none
/-- the two arguments of a replace have tokens of their own: written texts -/
noncomputable def repArgs (as : MEs) : Bool :=
  match as.two with
  | some (a, r) => a.strOf.isSome && (match r.two with
    | some (b, r) => b.strOf.isSome && r.two.isNone
    | .none => false)
  | .none => false
noncomputable def MEs.len : MEs → Nat
  | .nil => 0
  | .cons _ r => r.len + 1
noncomputable def C0.short : C0 → Bool
  | .str x => decide ((lit x).length ≤ 1000)
  | _ => true
noncomputable def MEs.short : MEs → Bool
  | .nil => true
  | .cons e r => (match e.cstOf with | some c => c.short | .none => true) && r.short
noncomputable def ME.notCall : ME → Bool
  | .lrange _ _ _ _ _ => false
  | .comp _ _ _ _ _ _ _ => false
  | .call _ _ _ => false
  | .bcall _ _ _ _ => false
  | .meth _ _ _ _ _ => false
  | _ => true
noncomputable def ME.isName : ME → Bool
  | .loc _ _ => true
  | .glob _ _ => true
  | _ => false
noncomputable def MEs.keys : MEs → List (List Nat)
  | .nil => []
  | .cons e r => match e.strOf with
    | some k => lit k :: r.keys
    | .none => []
/-- a block's names, seen from the def that it stands in -/
noncomputable def relab (sc scope : Scope) : Scope :=
  { scope with names := scope.names.map fun (n, k) => if (k == .free && sc.kind == .function && sc.names.lookup n == some .cell) then (n, .cell) else (n, k) }
noncomputable def compOk (N : Nm) (sc scope : Scope) (x : Nat) : Bool :=
  decide (x < N.slots.length) && (scope.kind == .function) && decide ((scope.names.map (·.1)).Nodup) && scope.names.all (fun y => !(y.2 == .cell)) && (scope.names.lookup (N.slots.getD x default) == some .local)
    && scope.names.all (fun y => !(y.2 == .free) || sc.names.lookup y.1 == some .cell) && (List.range N.slots.length).all (fun i => decide (i = x) || !((relab sc scope).names.lookup (N.slots.getD i default) == some .local))
/-! what the text's shape must be, by itself -/
mutual
noncomputable def ME.ok (N : Nm) (sc : Scope) : ME → Bool
  | .loc i _ => decide (i < N.slots.length) && (sc.names.lookup (N.slots.getD i default) == some .local || sc.names.lookup (N.slots.getD i default) == some .cell) && !(N.slots.getD i default == ("__debug__" : Str))
  | .glob g _ => decide (g < N.globs.length) && (sc.names.lookup (N.globs.getD g default) == some .globalImplicit) && !(N.globs.getD g default == ("__debug__" : Str))
  | .cst c _ => c.short
  | .bin _ l r _ => l.ok N sc && r.ok N sc
  | .cmp _ l r _ => l.ok N sc && r.ok N sc
  | .and2 l r _ => l.ok N sc && r.ok N sc
  | .or2 l r _ => l.ok N sc && r.ok N sc
  | .and3 l c r _ => l.ok N sc && c.ok N sc && r.ok N sc
  | .isNil e _ _ => e.ok N sc
  | .lrange _ _ e _ _ => e.ok N sc && (sc.names.lookup (Str.ofString Bi.list.name) == some .globalImplicit) && (sc.names.lookup (Str.ofString Bi.range.name) == some .globalImplicit)
  | .not e _ => e.ok N sc
  | .neg e _ => e.ok N sc
  | .ite t b o _ => t.ok N sc && b.ok N sc && o.ok N sc
  | .idx e i _ => e.ok N sc && i.ok N sc
  | .slice e lo hi _ _ => e.ok N sc && lo.ok N sc && hi.ok N sc
  | .call f as _ => f.ok N sc && as.ok N sc && f.isName
  | .bcall n _ as _ => (sc.names.lookup (Str.ofString n.name) == some .globalImplicit) && as.ok N sc
  | .meth n self ap as p => self.ok N sc && as.ok N sc && (ap.endLine == p.line) && (match n with | .replace => repArgs as | _ => true) && decide (as.len < 30) && self.notCall
  | .list es _ => es.ok N sc && decide (es.len ≤ 64)
  | .comp elt x _ it t scope _ => compOk N sc scope x && it.ok N sc && elt.ok N (relab sc scope) && t.ok N (relab sc scope)
  | .dict sp ks vs _ => sp.ok N sc && ks.short && vs.short && decide (ks.len ≤ 15) && decide ((ks.keys).Nodup) && (match sp with | .no => true | .yes _ => decide (1 ≤ ks.len))
noncomputable def MEs.ok (N : Nm) (sc : Scope) : MEs → Bool
  | .nil => true
  | .cons e r => e.ok N sc && r.ok N sc
noncomputable def MO.ok (N : Nm) (sc : Scope) : MO → Bool
  | .no => true
  | .yes e => e.ok N sc
end

mutual
noncomputable def MS.back (N : Nm) : MS → Stmt
  | .asg i tp e p => .Assign [.Name (N.slots.getD i default) tp] (e.back N) p
  | .asgc i tp e p => .Assign [.Name (N.slots.getD i default) tp] (e.back N) p
  | .asg2 i j tpi tpj tp a b vp p => .Assign [.Tuple [.Name (N.slots.getD i default) tpi, .Name (N.slots.getD j default) tpj] 0 tp] (.Tuple [a.back N, b.back N] 0 vp) p
  | .sets o i tp e p => .Assign [.Subscript (o.back N) (i.back N) tp] (e.back N) p
  | .ite t b o p => .If (t.back N) (b.back N) (o.back N) p
  | .for1 x xp it b p => .For (.Name (N.slots.getD x default) xp) (it.back N) (b.back N) [] p
  | .rep s k v d kp vp tp dp ap cp tp2 sp mp k2 v2 rp ap2 p => .For (.Tuple [.Name (N.slots.getD k default) kp, .Name (N.slots.getD v default) vp] 0 tp) (.Call (.Attribute (.Name (N.slots.getD d default) dp) (Str.ofString "items") ap) [] [] cp)
      [.Assign [.Name (N.slots.getD s default) tp2] (.Call (.Attribute (.Name (N.slots.getD s default) sp) (Str.ofString "replace") mp) [.Name (N.slots.getD k default) k2, .Name (N.slots.getD v default) v2] [] rp) ap2] [] p
  | .ret e p => .Return (some (e.back N)) p
  | .app o e ap cp p => .Expr (.Call (.Attribute (o.back N) (Str.ofString "append") ap) [e.back N] [] cp) p
noncomputable def MSs.back (N : Nm) : MSs → List Stmt
  | .nil => []
  | .cons s r => s.back N :: r.back N
end

noncomputable def okSlot (N : Nm) (sc : Scope) (i : Nat) : Bool := decide (i < N.slots.length) && (sc.names.lookup (N.slots.getD i default) == some .local)
noncomputable def okIt1 (N : Nm) (sc : Scope) : ME → Bool
  | .bcall .range _ (.cons e .nil) _ => (sc.names.lookup (Str.ofString Bi.range.name) == some .globalImplicit) && e.ok N sc
  | e => e.ok N sc
noncomputable def okSlotC (N : Nm) (sc : Scope) (i : Nat) : Bool := decide (i < N.slots.length) && (sc.names.lookup (N.slots.getD i default) == some .local || sc.names.lookup (N.slots.getD i default) == some .cell)
noncomputable def ME.noComp : ME → Bool
  | .comp _ _ _ _ _ _ _ => false
  | _ => true
/-- a block whose list goes right into a name -/
noncomputable def okSwap (N : Nm) (i : Nat) (tp : Pos) : ME → Bool
  | .comp _ _ _ _ _ scope p => (tp.line == p.line) && !(scope.names.any fun (n, k) => n == N.slots.getD i default && (k == .local || k == .cell))
  | _ => false
mutual
noncomputable def MS.ok (N : Nm) (sc : Scope) : MS → Bool
  | .asg i _ e _ => okSlotC N sc i && e.ok N sc && e.noComp
  | .asgc i tp e _ => okSlot N sc i && e.ok N sc && okSwap N i tp e
  | .asg2 i j tpi tpj _ a b _ _ => okSlot N sc i && okSlot N sc j && !(N.slots.getD i default == N.slots.getD j default) && (tpi.line == tpj.line) && a.ok N sc && b.ok N sc &&
    ((foldedForSure 8 (a.back N) && foldedForSure 8 (b.back N)) || !(constantsAlone 8 (a.back N) && constantsAlone 8 (b.back N)))
  | .sets o i _ e _ => o.ok N sc && i.ok N sc && e.ok N sc && e.noComp
  | .ite t b o _ => t.ok N sc && b.ok N sc && o.ok N sc
  | .for1 x _ it b _ => okSlot N sc x && okIt1 N sc it && b.ok N sc
  | .rep si ki vi di _ _ _ _ ap cp _ _ mp _ _ rp _ _ => okSlot N sc si && okSlot N sc ki && okSlot N sc vi && okSlot N sc di && decide (ki ≠ vi) && decide (si ≠ ki) && decide (si ≠ vi) && (ap.endLine == cp.line) && (mp.endLine == rp.line) &&
    !([si, ki, vi, di].any fun i => N.slots.getD i default == ("__debug__" : Str))
  | .ret e _ => e.ok N sc
  | .app o e ap cp _ => o.ok N sc && e.ok N sc && (ap.endLine == cp.line) && o.isName
noncomputable def MSs.ok (N : Nm) (sc : Scope) : MSs → Bool
  | .nil => true
  | .cons s r => s.ok N sc && r.ok N sc
end

/-! the small machine -/
inductive V where
  | none
  | bool (b : Bool)
  | int (i : Int)
  | str (l : List Nat)
  | ref (k : Nat)
  | ext (j : Nat)
  | fn (g : Nat)
  deriving DecidableEq
inductive O where
  | list (vs : List V)
  | dict (rep : Bool) (ep : Nat) (es : List (List Nat × V))
  deriving DecidableEq
abbrev M := List (Option V)
abbrev Hp := List O

noncomputable def C0.val : C0 → V
  | .none => .none
  | .bool b => .bool b
  | .int i => .int i
  | .str s => .str (lit s)

noncomputable def obj (X h : Hp) : V → Option O
  | .ref k => h[k]?
  | .ext j => X[j]?
  | _ => .none
noncomputable def O.full : O → Option Bool
  | .list vs => some (!vs.isEmpty)
  | .dict _ _ es => some (!es.isEmpty)
noncomputable def truth (X h : Hp) : V → Option Bool
  | .none => some false
  | .bool b => some b
  | .int i => some (decide (i ≠ 0))
  | .str l => some (!l.isEmpty)
  | .ref k => (obj X h (.ref k)).bind O.full
  | .ext j => (obj X h (.ext j)).bind O.full
  | .fn _ => .none

noncomputable def LIM : Nat := 16777216
noncomputable def binI (op : Operator) (x y : Int) : Option V :=
  match op with
  | .Add => some (.int (x + y))
  | .Sub => some (.int (x - y))
  | .Mult => if x.natAbs ≤ LIM then some (.int (x * y)) else .none
  | .FloorDiv => if y = 0 then .none else if y.natAbs ≤ LIM then some (.int (x.fdiv y)) else .none
  | .Mod => if y = 0 then .none else some (.int (x.fmod y))
  | _ => .none
noncomputable def binS (op : Operator) (x y : List Nat) : Option V :=
  match op with
  | .Add => if x.length + y.length ≤ LIM then some (.str (x ++ y)) else .none
  | .Mod => if y.length ≤ 10000000 then (if x = lit "\"%s\"" then some (.str (34 :: (y ++ [34]))) else if x = lit "'%s'" then some (.str (39 :: (y ++ [39]))) else .none) else .none
  | _ => .none
noncomputable def binop (op : Operator) (a b : V) : Option V :=
  match a with
  | .int x => (match b with
    | .int y => binI op x y
    | _ => .none)
  | .str x => (match b with
    | .str y => binS op x y
    | _ => .none)
  | _ => .none

/-- y stands in x -/
noncomputable def inStr (y : List Nat) : List Nat → Bool
  | [] => y.isEmpty
  | c :: r => y.isPrefixOf (c :: r) || inStr y r
noncomputable def keyIn (k : List Nat) (es : List (List Nat × V)) : Option V := (es.find? fun e => e.1 == k).map (·.2)

noncomputable def cmpI (op : CmpOp) (x y : Int) : Option Bool :=
  match op with
  | .Eq => some (decide (x = y))
  | .NotEq => some (!decide (x = y))
  | .Lt => some (decide (x < y))
  | .LtE => some (decide (x ≤ y))
  | .Gt => some (decide (y < x))
  | .GtE => some (decide (y ≤ x))
  | _ => .none
noncomputable def cmpS (op : CmpOp) (x y : List Nat) : Option Bool :=
  match op with
  | .Eq => some (decide (x = y))
  | .NotEq => some (!decide (x = y))
  | .In => some (inStr x y)
  | .NotIn => some (!inStr x y)
  | _ => .none
noncomputable def cmpop (op : CmpOp) (a b : V) : Option Bool :=
  match a with
  | .int x => (match b with
    | .int y => cmpI op x y
    | _ => .none)
  | .str x => (match b with
    | .str y => cmpS op x y
    | _ => .none)
  | _ => .none

noncomputable def nidx (i : Int) (n : Nat) : Option Nat :=
  if 0 ≤ i then (if i.toNat < n then some i.toNat else .none) else if 0 ≤ i + n then some (i + n).toNat else .none
noncomputable def idxo : O → Int → Option V
  | .list vs, i => (nidx i vs.length).bind fun j => vs[j]?
  | .dict _ _ _, _ => .none
noncomputable def idxv (X h : Hp) (a i : V) : Option V :=
  match i with
  | .int i => (match a with
    | .str l => ((nidx i l.length).bind fun j => l[j]?).map fun c => .str [c]
    | v => (obj X h v).bind fun o => idxo o i)
  | _ => .none
noncomputable def clamp (i : Int) (n : Nat) : Nat := if i < 0 then (i + n).toNat else min i.toNat n
noncomputable def slc (l : List Nat) (lo hi : Option Int) : List Nat :=
  (l.take ((hi.map fun i => clamp i l.length).getD l.length)).drop ((lo.map fun i => clamp i l.length).getD 0)

noncomputable def slcL (l : List V) (lo hi : Option Int) : List V :=
  (l.take ((hi.map fun i => clamp i l.length).getD l.length)).drop ((lo.map fun i => clamp i l.length).getD 0)
/-- every place where y stands, from the left, is put as z; y is not empty -/
noncomputable def repl (y z : List Nat) : Nat → List Nat → List Nat
  | 0, l => l
  | _ + 1, [] => []
  | n + 1, c :: r => if y.isPrefixOf (c :: r) then z ++ repl y z n ((c :: r).drop y.length) else c :: repl y z n r
noncomputable def replace (y z l : List Nat) : List Nat := repl y z l.length l

inductive Fl where
  | next | brk | cont
  | ret (v : V)

structure Sm where
  ev : ME → M → Hp → Option (V × Hp)
  ex : MSs → M → Hp → Option (Fl × M × Hp)
  cl : Nat → List V → Hp → Option (V × Hp)
  fu : Nat

structure Fn where
  np : Nat
  nslots : Nat
  body : MSs
  dflt : Option Nat

noncomputable def evs (S : Sm) : MEs → M → Hp → Option (List V × Hp)
  | .nil, _, h => some ([], h)
  | .cons e r, m, h => (S.ev e m h).bind fun (v, h) => (evs S r m h).bind fun (vs, h) => some (v :: vs, h)
noncomputable def evO (S : Sm) : MO → M → Hp → Option (Option Int × Hp)
  | .no, _, h => some (.none, h)
  | .yes e, m, h => (S.ev e m h).bind fun (v, h) => match v with
    | .int i => some (some i, h)
    | _ => .none
/-- a written display's pairs: constants alone -/
noncomputable def pairs : MEs → MEs → Option (List (List Nat × V))
  | .nil, vs => (match vs.two with | .none => some [] | some _ => .none)
  | .cons k ks, vs => vs.two.bind fun q => k.strOf.bind fun s => q.1.cstOf.bind fun c => (pairs ks q.2).map fun r => (lit s, c.val) :: r
noncomputable def lenv (X h : Hp) : V → Option Int
  | .str l => some l.length
  | v => (obj X h v).bind fun o => match o with
    | .list xs => some xs.length
    | _ => .none
noncomputable def bcall (X : Hp) (n : Bi) (vs : List V) (h : Hp) : Option (V × Hp) :=
  match vs with
  | [v] => (match n with
    | .len => (lenv X h v).map fun i => (.int i, h)
    | .abs => (match v with
      | .int i => some (.int i.natAbs, h)
      | _ => .none)
    | _ => .none)
  | [.int a, .int b] => (match n with
    | .min => some (.int (min a b), h)
    | _ => .none)
  | _ => .none

noncomputable def mRep (l : List Nat) (h : Hp) : List V → Option (V × Hp)
  | [.str y, .str z] => if y ≠ [] ∧ l.length + (l.length + 1) * z.length ≤ LIM then some (V.str (replace y z l), h) else .none
  | _ => .none
noncomputable def strsOf : List V → Option (List (List Nat))
  | [] => some []
  | .str x :: r => (strsOf r).map (x :: ·)
  | _ => .none
/-- ''.join(..) -/
noncomputable def mJoin (l : List Nat) (h : Hp) : List V → Option (V × Hp)
  | [.ref k] => if l = [] then (match h[k]? with
    | some (.list vs) => (strsOf vs).bind fun xs => if xs.flatten.length ≤ LIM then some (V.str xs.flatten, h) else .none
    | _ => .none) else .none
  | _ => .none
noncomputable def mGet (X h : Hp) (a : V) : List V → Option (V × Hp)
  | [.str k, v] => (match obj X h a with
    | some (.dict _ _ es) => some ((keyIn k es).getD v, h)
    | _ => .none)
  | _ => .none
noncomputable def meth (X : Hp) (n : Mt) (a : V) (vs : List V) (h : Hp) : Option (V × Hp) :=
  match n with
  | .replace => (match a with
    | .str l => mRep l h vs
    | _ => .none)
  | .join => (match a with
    | .str l => mJoin l h vs
    | _ => .none)
  | .get => mGet X h a vs

noncomputable def isD (X h : Hp) (a : V) : Bool :=
  match obj X h a with
  | some (.dict _ _ _) => true
  | _ => false
noncomputable def preM (X h : Hp) (n : Mt) (a : V) : Bool :=
  match n with
  | .get => isD X h a
  | _ => true

/-- a block's test -/
noncomputable def mtest (X : Hp) (S : Sm) : MO → M → Hp → Option (Bool × Hp)
  | .no, _, h => some (true, h)
  | .yes t, m, h => (S.ev t m h).bind fun (a, h) => (truth X h a).map fun c => (c, h)
/-- a block's turns -/
noncomputable def mcomp (X : Hp) (S : Sm) (chk : Hp → Bool) (elt : ME) (x : Nat) (t : MO) : List V → M → Hp → Option (List V × Hp)
  | [], _, h => if chk h then some ([], h) else .none
  | v :: vs, m, h => if chk h then (mtest X S t (m.set x (some v)) h).bind fun (c, h) => if c then (S.ev elt (m.set x (some v)) h).bind fun (y, h) => (mcomp X S chk elt x t vs m h).map fun (ys, h) => (y :: ys, h) else mcomp X S chk elt x t vs m h else .none
noncomputable def iterV (X h : Hp) : V → Option (List V × (Hp → Bool) × Hp)
  | .str l => some (l.map fun c => .str [c], fun _ => true, h)
  | .ext j => (match X[j]? with
    | some (.list vs) => some (vs, fun _ => true, h)
    | _ => .none)
  | .ref k => (match h[k]? with
    | some (.list vs) => some (vs, fun h' => decide (h'[k]? = some (.list vs)), h)
    | _ => .none)
  | _ => .none

noncomputable def stepE (X : Hp) (S : Sm) (e : ME) (m : M) (h : Hp) : Option (V × Hp) :=
  match e with
  | .loc i _ => (m.getD i .none).map fun v => (v, h)
  | .glob g _ => some (.fn g, h)
  | .cst c _ => some (c.val, h)
  | .bin op l r _ => (S.ev l m h).bind fun (a, h) => (S.ev r m h).bind fun (b, h) => (binop op a b).map fun v => (v, h)
  | .cmp op l r _ => (S.ev l m h).bind fun (a, h) => (S.ev r m h).bind fun (b, h) => (cmpop op a b).map fun c => (.bool c, h)
  | .and2 l r _ => (S.ev l m h).bind fun (a, h) => (truth X h a).bind fun t => if t then S.ev r m h else some (a, h)
  | .or2 l r _ => (S.ev l m h).bind fun (a, h) => (truth X h a).bind fun t => if t then some (a, h) else S.ev r m h
  | .and3 l c r _ => (S.ev l m h).bind fun (a, h) => (truth X h a).bind fun t => if t then ((S.ev c m h).bind fun (a, h) => (truth X h a).bind fun t => if t then S.ev r m h else some (a, h)) else some (a, h)
  | .isNil e _ _ => (S.ev e m h).bind fun (a, h) => (obj X h a).bind fun o => match o with
    | .list vs => some (.bool vs.isEmpty, h)
    | _ => .none
  | .lrange _ _ e _ _ => (S.ev e m h).bind fun (a, h) => match a with
    | .int n => if n.natAbs ≤ LIM then some (.ref h.length, h ++ [.list ((List.range n.toNat).map fun (i : Nat) => .int (i : Int))]) else .none
    | _ => .none
  | .not e _ => (S.ev e m h).bind fun (a, h) => (truth X h a).map fun t => (.bool (!t), h)
  | .neg e _ => (S.ev e m h).bind fun (a, h) => match a with
    | .int i => some (.int (-i), h)
    | _ => .none
  | .ite t b o _ => (S.ev t m h).bind fun (a, h) => (truth X h a).bind fun t => if t then S.ev b m h else S.ev o m h
  | .idx e i _ => (S.ev e m h).bind fun (a, h) => (S.ev i m h).bind fun (b, h) => (idxv X h a b).map fun v => (v, h)
  | .slice e lo hi _ _ => (S.ev e m h).bind fun (a, h) => (evO S lo m h).bind fun (l, h) => (evO S hi m h).bind fun (u, h) => match a with
    | .str x => some (.str (slc x l u), h)
    | v => (obj X h v).bind fun o => match o with
      | .list vs => some (.ref h.length, h ++ [.list (slcL vs l u)])
      | _ => .none
  | .call f as _ => (S.ev f m h).bind fun (f, h) => (evs S as m h).bind fun (vs, h) => match f with
    | .fn g => S.cl g vs h
    | _ => .none
  | .bcall n _ as _ => (evs S as m h).bind fun (vs, h) => bcall X n vs h
  | .meth n self _ as _ => (S.ev self m h).bind fun (a, h) => if preM X h n a = false then .none else (evs S as m h).bind fun (vs, h) => meth X n a vs h
  | .list es _ => (evs S es m h).bind fun (vs, h) => some (.ref h.length, h ++ [.list vs])
  | .comp elt x _ it t _ _ => (S.ev it m h).bind fun (a, h) => (iterV X h a).bind fun (vs, chk, h) => if vs.length ≤ LIM then (mcomp X S chk elt x t vs m h).map fun (ys, h) => (.ref h.length, h ++ [.list ys]) else .none
  | .dict .no ks vs _ => (pairs ks vs).bind fun es => some (.ref h.length, h ++ [.dict true es.length es])
  | .dict (.yes e) ks vs _ => (S.ev e m h).bind fun (a, h) => match obj X h a with
    | some (.dict rep _ es) => (pairs ks vs).bind fun more => if es.length ≤ 1000 ∧ (more.all fun p => (keyIn p.1 es).isNone) = true then some (.ref h.length, h ++ [.dict rep (es.length + more.length) (es ++ more)]) else .none
    | _ => .none

/-- for k, v in d.items(): s = s.replace(k, v) -/
noncomputable def reps (si ki vi : Nat) : List (List Nat × V) → M → Option M
  | [], m => some m
  | (k, .str v) :: r, m => (match m.getD si .none with
    | some (.str l) => if k ≠ [] ∧ l.length + (l.length + 1) * v.length ≤ LIM then reps si ki vi r (((m.set ki (some (.str k))).set vi (some (.str v))).set si (some (.str (replace k v l)))) else .none
    | _ => .none)
  | _, _ => .none

/-- a for loop over items that are read off ahead; st stores an item; at each turn's start chk holds: what is walked is as it was -/
noncomputable def mfor (S : Sm) (chk : Hp → Bool) (st : V → M → Hp → Option M) (b : MSs) : List V → M → Hp → Option (Fl × M × Hp)
  | [], m, h => if chk h then some (.next, m, h) else .none
  | v :: vs, m, h => if chk h then (st v m h).bind fun m => ((S.ex b m h).bind fun (f, m, h) => match f with
      | .next => mfor S chk st b vs m h
      | .cont => mfor S chk st b vs m h
      | .brk => some (.next, m, h)
      | .ret v => some (.ret v, m, h)) else .none
noncomputable def st1 (x : Nat) (v : V) (m : M) (h : Hp) : Option M := some (m.set x (some v))
noncomputable def iter1 (X : Hp) (S : Sm) (it : ME) (m : M) (h : Hp) : Option (List V × (Hp → Bool) × Hp) :=
  match it with
  | .bcall .range _ (.cons e .nil) _ => (S.ev e m h).bind fun (a, h) => match a with
    | .int n => if n.natAbs ≤ LIM then some ((List.range n.toNat).map fun (i : Nat) => .int (i : Int), fun _ => true, h) else .none
    | _ => .none
  | e => (S.ev e m h).bind fun (a, h) => iterV X h a
noncomputable def isL (h : Hp) (r : Nat) : Bool :=
  match h[r]? with
  | some (.list _) => true
  | _ => false
noncomputable def appL (h : Hp) (r : Nat) (v : V) : Option Hp :=
  match h[r]? with
  | some (.list vs) => if vs.length < LIM then some (h.set r (.list (vs ++ [v]))) else .none
  | _ => .none
/-- d['k'] = 'x' or a number: new keys, written -/
noncomputable def setD (rep : Bool) (h : Hp) (r : Nat) (k : List Nat) (v : V) : Option Hp :=
  match h[r]? with
  | some (.dict rp ep es) => if es.length < 1000 ∧ (keyIn k es).isNone = true then some (h.set r (.dict (rp && rep) (ep + 1) (es ++ [(k, v)]))) else .none
  | _ => .none
/-- both have tokens of their own -/
noncomputable def constSet : ME → ME → ME → Bool
  | .loc _ _, .cst (.str _) _, .cst (.str _) _ => true
  | _, _, _ => false
noncomputable def stepS (X : Hp) (S : Sm) (s : MS) (m : M) (h : Hp) : Option (Fl × M × Hp) :=
  match s with
  | .asg i _ e _ => (S.ev e m h).bind fun (v, h) => some (.next, m.set i (some v), h)
  | .asg2 i j _ _ _ a b _ _ => (S.ev a m h).bind fun (u, h) => (S.ev b m h).bind fun (v, h) => some (.next, (m.set i (some u)).set j (some v), h)
  | .asgc i _ e _ => (S.ev e m h).bind fun (v, h) => some (.next, m.set i (some v), h)
  | .sets o i _ e _ => (S.ev e m h).bind fun (v, h) => (S.ev o m h).bind fun (a, h) => (S.ev i m h).bind fun (k, h) => match a with
    | .ref r => (match k with
      | .str k => (setD (constSet o i e) h r k v).map fun h => (.next, m, h)
      | _ => .none)
    | _ => .none
  | .ite t b o _ => (S.ev t m h).bind fun (a, h) => (truth X h a).bind fun t => if t then S.ex b m h else S.ex o m h
  | .for1 x _ it b _ => (iter1 X S it m h).bind fun (vs, chk, h) => mfor S chk (st1 x) b vs m h
  | .rep si ki vi di .. => (m.getD di .none).bind fun dv => (match obj X h dv with
    | some (.dict true _ es) => (reps si ki vi es m).map fun m => (.next, m, h)
    | _ => .none)
  | .ret e _ => (S.ev e m h).bind fun (v, h) => some (.ret v, m, h)
  | .app o e _ _ _ => (S.ev o m h).bind fun (a, h) => match a with
    | .ref r => if isL h r then (S.ev e m h).bind fun (v, h) => (appL h r v).map fun h => (.next, m, h) else .none
    | _ => .none
noncomputable def stepX (X : Hp) (S : Sm) : MSs → M → Hp → Option (Fl × M × Hp)
  | .nil, m, h => some (.next, m, h)
  | .cons s r, m, h => (stepS X S s m h).bind fun (f, m, h) => match f with
    | .next => S.ex r m h
    | f => some (f, m, h)
noncomputable def stepC (F : List Fn) (S : Sm) (g : Nat) (vs : List V) (h : Hp) : Option (V × Hp) :=
  (F[g]?).bind fun f =>
    (if vs.length = f.np then some vs else match f.dflt with
      | some j => if vs.length + 1 = f.np then some (vs ++ [.ext j]) else .none
      | .none => .none).bind fun vs =>
    (S.ex f.body (vs.map some ++ List.replicate (f.nslots - f.np) .none) h).map fun (f, _, h) => match f with
      | .ret v => (v, h)
      | _ => (.none, h)

/-- n: the steps' depth; d: the calls' depth -/
noncomputable def Mi (F : List Fn) (X : Hp) : Nat → Nat → Sm
  | 0, _ => ⟨fun _ _ _ => .none, fun _ _ _ => .none, fun _ _ _ => .none, 0⟩
  | n + 1, d => ⟨stepE X (Mi F X n d), stepX X (Mi F X n d), (match d with | 0 => fun _ _ _ => .none | d + 1 => stepC F (Mi F X n d)), n⟩

end Mine

end

section
open PySem PySem.Calls PyProof.Rows PySem.W
namespace Mine

/-! the small machine's values and objects as the model bears them -/
noncomputable def All2 {α β : Type} (R : α → β → Prop) : List α → List β → Prop
  | [], [] => True
  | a :: l, b :: r => R a b ∧ All2 R l r
  | _, _ => False
theorem All2.length {α β : Type} {R : α → β → Prop} : ∀ {l : List α} {r : List β}, All2 R l r → l.length = r.length
  | [], [], _ => rfl
  | _ :: _, _ :: _, h => by rw [List.length_cons, List.length_cons, All2.length h.2]
  | [], _ :: _, h => h.elim
  | _ :: _, [], h => h.elim
theorem All2.mono {α β : Type} {R R' : α → β → Prop} (f : ∀ a b, R a b → R' a b) : ∀ {l : List α} {r : List β}, All2 R l r → All2 R' l r
  | [], [], _ => trivial
  | _ :: _, _ :: _, h => ⟨f _ _ h.1, All2.mono f h.2⟩
  | [], _ :: _, h => h.elim
  | _ :: _, [], h => h.elim
theorem All2.cons_inv {α β : Type} {R : α → β → Prop} {a : α} {l : List α} {r : List β} (h : All2 R (a :: l) r) : ∃ b t, r = b :: t ∧ R a b ∧ All2 R l t := by
  cases r with
  | nil => exact h.elim
  | cons b t => exact ⟨b, t, rfl, h.1, h.2⟩
theorem All2.nil_inv {α β : Type} {R : α → β → Prop} {r : List β} (h : All2 R ([] : List α) r) : r = [] := by
  cases r with
  | nil => rfl
  | cons b t => exact h.elim
theorem All2.one {α β : Type} {R : α → β → Prop} {a : α} {r : List β} (h : All2 R [a] r) : ∃ x, r = [x] ∧ R a x := by
  obtain ⟨x, r, rfl, hx, h⟩ := h.cons_inv
  obtain rfl := h.nil_inv
  exact ⟨x, rfl, hx⟩
theorem All2.two {α β : Type} {R : α → β → Prop} {a b : α} {r : List β} (h : All2 R [a, b] r) : ∃ x y, r = [x, y] ∧ R a x ∧ R b y := by
  obtain ⟨x, r, rfl, hx, h⟩ := h.cons_inv
  obtain ⟨y, rfl, hy⟩ := h.one
  exact ⟨x, y, rfl, hx, hy⟩
theorem All2.get {α β : Type} {R : α → β → Prop} : ∀ {l : List α} {r : List β} {i : Nat} {a : α}, All2 R l r → l[i]? = some a → ∃ b, r[i]? = some b ∧ R a b
  | _ :: _, b :: _, 0, a, h, e => ⟨b, rfl, by simp at e; exact e ▸ h.1⟩
  | _ :: l, _ :: r, i + 1, a, h, e => by
    obtain ⟨b, hb, hr⟩ := All2.get (i := i) (a := a) h.2 (by simpa using e)
    exact ⟨b, by simpa using hb, hr⟩
  | [], [], _, _, _, e => by simp at e
  | [], _ :: _, _, _, h, _ => h.elim
  | _ :: _, [], _, _, h, _ => h.elim
theorem All2.append {α β : Type} {R : α → β → Prop} : ∀ {l : List α} {r : List β} {l' : List α} {r' : List β}, All2 R l r → All2 R l' r' → All2 R (l ++ l') (r ++ r')
  | [], [], _, _, _, h => h
  | _ :: _, _ :: _, _, _, h, h' => ⟨h.1, All2.append h.2 h'⟩
  | [], _ :: _, _, _, h, _ => h.elim
  | _ :: _, [], _, _, h, _ => h.elim
theorem All2.set {α β : Type} {R : α → β → Prop} : ∀ {l : List α} {r : List β} {i : Nat} {a : α} {b : β}, All2 R l r → R a b → All2 R (l.set i a) (r.set i b)
  | [], [], _, _, _, _, _ => trivial
  | _ :: _, _ :: _, 0, _, _, h, hr => ⟨hr, h.2⟩
  | _ :: _, _ :: _, i + 1, _, _, h, hr => ⟨h.1, All2.set h.2 hr⟩
  | [], _ :: _, _, _, _, h, _ => h.elim
  | _ :: _, [], _, _, _, h, _ => h.elim

/-- where the model keeps the defs and the objects that stood before -/
structure Pl where
  fa : List Addr
  xa : List Addr

noncomputable def VR (L : Pl) (β : List Addr) (T : Nat) : V → Value → Prop
  | .none, v => v = .none
  | .bool b, v => v = .bool b
  | .int i, v => ∃ t, v = .int i t
  | .str l, v => ∃ t, v = .str ⟨l.toArray⟩ t ∧ 0 < t ∧ t < T ∧ l.length ≤ LIM
  | .ref k, v => ∃ a, β[k]? = some a ∧ v = .ref a
  | .ext j, v => ∃ a, L.xa[j]? = some a ∧ v = .ref a
  | .fn g, v => ∃ a, L.fa[g]? = some a ∧ v = .ref a

noncomputable def ER (w : World) (L : Pl) (β : List Addr) (T : Nat) (rep : Bool) (e : List Nat × V) (d : DictEntry) : Prop :=
  ∃ t, d.key = .str ⟨e.1.toArray⟩ t ∧ d.hash = hashStr w ⟨e.1.toArray⟩ ∧ VR L β T e.2 d.val ∧ 0 < t ∧ t < T ∧ e.1.length ≤ LIM ∧ (rep = true → ∀ x u, d.val = .str x u → u ≠ t)

noncomputable def OR (w : World) (L : Pl) (β : List Addr) (T : Nat) : O → Obj → Prop
  | .list vs, o => ∃ items n d sl, o = ⟨.type "list", d, .seq items n, sl⟩ ∧ All2 (VR L β T) vs items.toList ∧ vs.length ≤ LIM
  | .dict rep ep es, o => ∃ ents, o = ⟨.type "dict", none, .dict ents ep, #[]⟩ ∧ All2 (ER w L β T rep) es ents.toList ∧ (es.map (·.1)).Nodup ∧ es.length ≤ LIM

noncomputable def Pre (β β' : List Addr) : Prop := ∃ γ, β' = β ++ γ
theorem Pre.refl (β : List Addr) : Pre β β := ⟨[], by simp⟩
theorem Pre.trans {a b c : List Addr} : Pre a b → Pre b c → Pre a c
  | ⟨x, hx⟩, ⟨y, hy⟩ => ⟨x ++ y, by rw [hy, hx, List.append_assoc]⟩
theorem Pre.get {β β' : List Addr} (h : Pre β β') {k : Nat} {a : Addr} (e : β[k]? = some a) : β'[k]? = some a := by
  obtain ⟨γ, rfl⟩ := h
  have hk : k < β.length := by
    rcases Nat.lt_or_ge k β.length with h | h
    · exact h
    · rw [List.getElem?_eq_none h] at e; cases e
  rw [List.getElem?_append_left hk, e]
theorem Pre.mem {β β' : List Addr} (h : Pre β β') {a : Addr} (e : a ∈ β) : a ∈ β' := by
  obtain ⟨γ, rfl⟩ := h; exact List.mem_append_left _ e

theorem VR.mono {L : Pl} {β β' : List Addr} {T T' : Nat} (hp : Pre β β') (ht : T ≤ T') : ∀ {v : V} {x : Value}, VR L β T v x → VR L β' T' v x
  | .none, _, h => h
  | .bool _, _, h => h
  | .int _, _, h => h
  | .str _, _, ⟨t, e, h0, h1, h2⟩ => ⟨t, e, h0, Nat.lt_of_lt_of_le h1 ht, h2⟩
  | .ref _, _, ⟨a, e, q⟩ => ⟨a, hp.get e, q⟩
  | .ext _, _, h => h
  | .fn _, _, h => h
theorem ER.mono {w : World} {L : Pl} {β β' : List Addr} {T T' : Nat} {rep : Bool} (hp : Pre β β') (ht : T ≤ T') {e : List Nat × V} {d : DictEntry} : ER w L β T rep e d → ER w L β' T' rep e d
  | ⟨t, a, b, c, d0, d1, d2, f⟩ => ⟨t, a, b, c.mono hp ht, d0, Nat.lt_of_lt_of_le d1 ht, d2, f⟩
theorem OR.mono {w : World} {L : Pl} {β β' : List Addr} {T T' : Nat} (hp : Pre β β') (ht : T ≤ T') : ∀ {o : O} {x : Obj}, OR w L β T o x → OR w L β' T' o x
  | .list _, _, ⟨i, n, d, s, e, h, q⟩ => ⟨i, n, d, s, e, h.mono fun _ _ => VR.mono hp ht, q⟩
  | .dict _ _ _, _, ⟨i, e, h, n⟩ => ⟨i, e, h.mono fun _ _ => ER.mono hp ht, n⟩

noncomputable def ORd (w : World) (L : Pl) (β : List Addr) (T : Nat) (o : O) (ob : Obj) : Prop := OR w L β T o ob ∧ ob.dict = none
theorem ORd.mono {w : World} {L : Pl} {β β' : List Addr} {T T' : Nat} (hp : Pre β β') (ht : T ≤ T') {o : O} {x : Obj} (r : ORd w L β T o x) : ORd w L β' T' o x := ⟨r.1.mono hp ht, r.2⟩

structure Gd (w : World) (L : Pl) (G : Heap) (β : List Addr) (T : Nat) (h : Hp) (H : Heap) : Prop where
  len : β.length = h.length
  nd : β.Nodup
  objs : ∀ (k : Nat) (o : O) (a : Addr), h[k]? = some o → β[k]? = some a → ∃ ob, H.get? a = some ob ∧ ORd w L β T o ob
  base : ∀ b o, G.get? b = some o → H.get? b = some o
  new : ∀ a ∈ β, G.get? a = none
  pos : 0 < T
  g3 : ∃ o, G.get? 3 = some o
  big : ∀ a ∈ β, (a == sysModules) = false

/-- how a step leaves the rest of the heap -/
structure Ext (β : List Addr) (H : Heap) (β' : List Addr) (H' : Heap) : Prop where
  pre : Pre β β'
  keep : ∀ b o, b ∉ β → H.get? b = some o → H'.get? b = some o ∧ b ∉ β'
theorem Ext.refl (β : List Addr) (H : Heap) : Ext β H β H := ⟨Pre.refl β, fun _ _ n e => ⟨e, n⟩⟩
theorem Ext.trans {a b c : List Addr} {H₁ H₂ H₃ : Heap} (x : Ext a H₁ b H₂) (y : Ext b H₂ c H₃) : Ext a H₁ c H₃ :=
  ⟨x.pre.trans y.pre, fun q o n e => let ⟨e1, n1⟩ := x.keep q o n e; y.keep q o n1 e1⟩

theorem Gd.toks {w : World} {L : Pl} {G : Heap} {β : List Addr} {T T' : Nat} {h : Hp} {H : Heap} (g : Gd w L G β T h H) (ht : T ≤ T') : Gd w L G β T' h H :=
  ⟨g.len, g.nd, fun k o a e1 e2 => let ⟨ob, q, r⟩ := g.objs k o a e1 e2; ⟨ob, q, r.mono (Pre.refl β) ht⟩, g.base, g.new, Nat.lt_of_lt_of_le g.pos ht, g.g3, g.big⟩
/-- a heap that keeps all that stood -/
theorem Gd.grow {w : World} {L : Pl} {G : Heap} {β : List Addr} {T : Nat} {h : Hp} {H H' : Heap} (g : Gd w L G β T h H) (hk : ∀ b o, H.get? b = some o → H'.get? b = some o) : Gd w L G β T h H' :=
  ⟨g.len, g.nd, fun k o a e1 e2 => let ⟨ob, q, r⟩ := g.objs k o a e1 e2; ⟨ob, hk _ _ q, r⟩, fun b o e => hk _ _ (g.base b o e), g.new, g.pos, g.g3, g.big⟩
theorem Ext.grow {β : List Addr} {H H' : Heap} (hk : ∀ b o, H.get? b = some o → H'.get? b = some o) : Ext β H β H' := ⟨Pre.refl β, fun b o n e => ⟨hk b o e, n⟩⟩
theorem get?_push_keep {H : Heap} (o : Obj) : ∀ b x, H.get? b = some x → (H.push o).get? b = some x := fun _ _ e => Heap.get?_push_of_some o e
/-- a heap that differs at one address outside -/
theorem Gd.but {w : World} {L : Pl} {G : Heap} {β : List Addr} {T : Nat} {h : Hp} {H H' : Heap} {c : Addr} (g : Gd w L G β T h H) (hc : c ∉ β) (hG : G.get? c = none) (hk : ∀ b o, b ≠ c → H.get? b = some o → H'.get? b = some o) : Gd w L G β T h H' :=
  ⟨g.len, g.nd, fun k o a e1 e2 => let ⟨ob, q, r⟩ := g.objs k o a e1 e2; ⟨ob, hk _ _ (fun z => hc (z ▸ List.mem_of_getElem? e2)) q, r⟩,
    fun b o e => hk _ _ (fun z => by rw [z, hG] at e; cases e) (g.base b o e), g.new, g.pos, g.g3, g.big⟩

theorem Gd.fresh {w : World} {L : Pl} {G : Heap} {β : List Addr} {T : Nat} {h : Hp} {H : Heap} (g : Gd w L G β T h H) : H.objs.size ∉ β ∧ G.get? H.objs.size = none := by
  constructor
  · intro hm
    obtain ⟨k, hk⟩ := List.getElem?_of_mem hm
    have hlt : k < h.length := by
      rw [← g.len]
      rcases Nat.lt_or_ge k β.length with q | q
      · exact q
      · rw [List.getElem?_eq_none q] at hk; cases hk
    obtain ⟨ob, q, _⟩ := g.objs k h[k] _ (List.getElem?_eq_getElem hlt) hk
    exact absurd (Heap.lt_size q) (Nat.lt_irrefl _)
  · cases e : G.get? H.objs.size with
    | none => rfl
    | some o => exact absurd (Heap.lt_size (g.base _ _ e)) (Nat.lt_irrefl _)

/-- a new object that the small machine sees -/
theorem Gd.alloc {w : World} {L : Pl} {G : Heap} {β : List Addr} {T : Nat} {h : Hp} {H : Heap} (g : Gd w L G β T h H) {o : O} {ob : Obj} (hf : ob.isFreed = false) (ho : ORd w L (β ++ [H.objs.size]) T o ob) :
    Gd w L G (β ++ [H.objs.size]) T (h ++ [o]) (H.push ob) ∧ Ext β H (β ++ [H.objs.size]) (H.push ob) := by
  have hp : Pre β (β ++ [H.objs.size]) := ⟨_, rfl⟩
  refine ⟨⟨by simp [g.len], ?_, ?_, fun b o' e => Heap.get?_push_of_some _ (g.base b o' e), ?_, g.pos, g.g3, ?_⟩, hp, ?_⟩
  · rw [List.nodup_append]
    refine ⟨g.nd, by simp, ?_⟩
    intro a ha b hb
    simp at hb
    subst hb
    intro e
    exact g.fresh.1 (e ▸ ha)
  · intro k o' a e1 e2
    rcases Nat.lt_or_ge k h.length with q | q
    · rw [List.getElem?_append_left q] at e1
      rw [List.getElem?_append_left (by rw [g.len]; exact q)] at e2
      obtain ⟨ob', x, y⟩ := g.objs k o' a e1 e2
      exact ⟨ob', Heap.get?_push_of_some _ x, y.mono hp (Nat.le_refl _)⟩
    · rw [List.getElem?_append_right q] at e1
      rw [List.getElem?_append_right (by rw [g.len]; exact q), g.len] at e2
      have hk : k - h.length = 0 := by
        rcases Nat.eq_zero_or_pos (k - h.length) with z | z
        · exact z
        · rw [List.getElem?_eq_none (by simp; omega)] at e1; cases e1
      rw [hk] at e1 e2
      simp at e1 e2
      subst e1 e2
      exact ⟨ob, Heap.get?_push_size _ hf, ho⟩
  · intro a ha
    rcases List.mem_append.mp ha with q | q
    · exact g.new a q
    · simp at q; subst q; exact g.fresh.2
  · intro a ha
    rcases List.mem_append.mp ha with q | q
    · exact g.big a q
    · simp at q; subst q
      obtain ⟨o3, h3⟩ := g.g3
      have := Heap.lt_size (g.base _ _ h3)
      exact beq_eq_false_iff_ne.mpr (Nat.ne_of_gt (Nat.lt_trans (by decide) this))
  · intro b o' n e
    refine ⟨Heap.get?_push_of_some _ e, fun hm => ?_⟩
    rcases List.mem_append.mp hm with q | q
    · exact n q
    · simp at q; subst q; exact absurd (Heap.lt_size e) (Nat.lt_irrefl _)

/-- an object of the small machine's is changed -/
theorem Gd.update {w : World} {L : Pl} {G : Heap} {β : List Addr} {T : Nat} {h : Hp} {H H' : Heap} {k : Nat} {a : Addr} (g : Gd w L G β T h H) {o' : O} {ob' : Obj} (ha : β[k]? = some a)
    (hk : ∀ b o, b ≠ a → H.get? b = some o → H'.get? b = some o) (hob : H'.get? a = some ob') (ho : ORd w L β T o' ob') : Gd w L G β T (h.set k o') H' ∧ Ext β H β H' := by
  refine ⟨⟨by simp [g.len], g.nd, ?_, fun b o e => hk b o (fun z => ?_) (g.base b o e), g.new, g.pos, g.g3, g.big⟩, Pre.refl β, fun b o n e => ⟨hk b o (fun z => n (z ▸ List.mem_of_getElem? ha)) e, n⟩⟩
  · intro j o b e1 e2
    by_cases hj : j = k
    · subst hj
      have : j < h.length := by
        rw [← g.len]
        rcases Nat.lt_or_ge j β.length with q | q
        · exact q
        · rw [List.getElem?_eq_none q] at ha; cases ha
      rw [List.getElem?_set_self this] at e1
      cases e1
      rw [ha] at e2; cases e2
      exact ⟨ob', hob, ho⟩
    · rw [List.getElem?_set_ne (Ne.symm hj)] at e1
      obtain ⟨ob, q, r⟩ := g.objs j o b e1 e2
      refine ⟨ob, hk b ob (fun z => hj ?_) q, r⟩
      have hb : j < β.length := by
        rcases Nat.lt_or_ge j β.length with q | q
        · exact q
        · rw [List.getElem?_eq_none q] at e2; cases e2
      exact (List.getElem?_inj hb g.nd).mp (by rw [e2, ha, z])
  · subst z
    have := g.new _ (List.mem_of_getElem? ha)
    rw [e] at this; cases this

theorem isCell_keep {H H' : Heap} {c : Addr} {w : Option Value} (x : H.IsCell c w) (hk : ∀ o, H.get? c = some o → H'.get? c = some o) : H'.IsCell c w :=
  let ⟨o, ho, hd⟩ := x; ⟨o, hk o ho, hd⟩
theorem ns_keep {H H' : Heap} {c : Addr} {f : Str → Option Value} (x : H.Ns c f) (hk : ∀ o, H.get? c = some o → H'.get? c = some o) : H'.Ns c f :=
  let ⟨o, es, ep, ho, r⟩ := x; ⟨o, es, ep, hk o ho, r⟩
/-- where a frame's names stand: a namespace, cells; vis: the names that it sees -/
structure Pf where
  A : Addr
  cs : List (Str × Addr)
  vis : Str → Bool
noncomputable def Pf.own (P : Pf) (a : Addr) : Prop := a = P.A ∨ ∃ n, P.cs.lookup n = some a
/-- the frame at hand -/
structure Frm (L : Pl) (G : Heap) (N : Nm) (β : List Addr) (T : Nat) (m : M) (P : Pf) (H : Heap) : Prop where
  ns : ∃ f, H.Ns P.A f ∧ ∀ i v, i < N.slots.length → m.getD i none = some v → P.vis (N.slots.getD i default) = true → P.cs.lookup (N.slots.getD i default) = none → ∃ y, f (N.slots.getD i default) = some y ∧ VR L β T v y
  cl : ∀ x c, P.cs.lookup x = some c → ∃ w, H.IsCell c w ∧ ∀ i v, i < N.slots.length → N.slots.getD i default = x → m.getD i none = some v → ∃ y, w = some y ∧ VR L β T v y
  out : ∀ a, P.own a → a ∉ β
  new : ∀ a, P.own a → G.get? a = none
theorem Frm.keep {L : Pl} {G : Heap} {N : Nm} {β β' : List Addr} {T T' : Nat} {m : M} {P : Pf} {H H' : Heap} (f : Frm L G N β T m P H) (hp : Pre β β') (ht : T ≤ T') (hk : ∀ a o, P.own a → H.get? a = some o → H'.get? a = some o ∧ a ∉ β') : Frm L G N β' T' m P H' := by
  obtain ⟨⟨g, hn, l⟩, cl, out, new⟩ := f
  refine ⟨⟨g, ns_keep hn fun o e => (hk _ o (.inl rfl) e).1, fun i v hi e1 e2 e3 => ?_⟩, fun x c hc => ?_, fun a ha => ?_, new⟩
  · obtain ⟨y, h1, h2⟩ := l i v hi e1 e2 e3
    exact ⟨y, h1, h2.mono hp ht⟩
  · obtain ⟨w, h1, h2⟩ := cl x c hc
    refine ⟨w, isCell_keep h1 fun o e => (hk _ o (.inr ⟨x, hc⟩) e).1, fun i v hi e1 e2 => ?_⟩
    obtain ⟨y, h3, h4⟩ := h2 i v hi e1 e2
    exact ⟨y, h3, h4.mono hp ht⟩
  · rcases ha with rfl | ⟨x, hc⟩
    · obtain ⟨o, _, _, ho, _⟩ := hn
      exact (hk _ o (.inl rfl) ho).2
    · obtain ⟨w, ⟨o, ho, _⟩, _⟩ := cl x a hc
      exact (hk _ o (.inr ⟨x, hc⟩) ho).2
theorem Frm.ext {L : Pl} {G : Heap} {N : Nm} {β β' : List Addr} {T T' : Nat} {m : M} {P : Pf} {H H' : Heap} (f : Frm L G N β T m P H) (x : Ext β H β' H') (ht : T ≤ T') : Frm L G N β' T' m P H' :=
  f.keep x.pre ht fun a o ha e => x.keep a o (f.out a ha) e
/-- a frame's place stands -/
theorem Frm.at {L : Pl} {G : Heap} {N : Nm} {β : List Addr} {T : Nat} {m : M} {P : Pf} {H : Heap} (f : Frm L G N β T m P H) {a : Addr} (ha : P.own a) : ∃ o, H.get? a = some o := by
  rcases ha with rfl | ⟨x, hc⟩
  · obtain ⟨_, ⟨o, _, _, ho, _⟩, _⟩ := f.ns
    exact ⟨o, ho⟩
  · obtain ⟨w, ⟨o, ho, _⟩, _⟩ := f.cl x a hc
    exact ⟨o, ho⟩

end Mine

end

section
open PySem PySem.Calls PyProof.Rows PySem.W
namespace Mine
open PySem.StrLaws PySem.Builtin PySem.Builtin.Str

theorem isP_iff {y l : List Nat} : y.isPrefixOf l = true ↔ y <+: l := List.isPrefixOf_iff_prefix
theorem at_iff {l y : List Nat} {i : Nat} : At ⟨l.toArray⟩ ⟨y.toArray⟩ l.length i ↔ i ≤ l.length ∧ y <+: l.drop i := by
  unfold StrLaws.At
  rw [subAt_eq]
  simp only [Str.length, List.size_toArray, beq_iff_eq]
  rw [List.prefix_iff_eq_take]
  constructor
  · intro ⟨h, e⟩
    exact ⟨by omega, e.symm⟩
  · intro ⟨h, e⟩
    refine ⟨?_, e.symm⟩
    have := congrArg List.length e
    simp at this
    omega
theorem repl_none {y z : List Nat} : ∀ {n : Nat} {l : List Nat}, (∀ k, k ≤ l.length → ¬ y <+: l.drop k) → repl y z n l = l
  | 0, l, _ => rfl
  | n + 1, [], _ => rfl
  | n + 1, c :: r, h => by
    have h0 : y.isPrefixOf (c :: r) = false := by
      cases e : y.isPrefixOf (c :: r) with
      | false => rfl
      | true => exact absurd (isP_iff.mp e) (h 0 (Nat.zero_le _))
    show (if y.isPrefixOf (c :: r) = true then _ else c :: repl y z n r) = _
    rw [h0]
    simp only [Bool.false_eq_true, if_false]
    rw [repl_none fun k hk => by have := h (k + 1) (by simpa using hk); simpa using this]
theorem repl_skip {y z : List Nat} : ∀ {k n : Nat} {l : List Nat}, (∀ j, j < k → ¬ y <+: l.drop j) → k ≤ l.length → k ≤ n → repl y z n l = l.take k ++ repl y z (n - k) (l.drop k)
  | 0, n, l, _, _, _ => by simp
  | k + 1, 0, l, _, _, h => by omega
  | k + 1, n + 1, [], _, h, _ => by simp at h
  | k + 1, n + 1, c :: r, h, h1, h2 => by
    have h0 : y.isPrefixOf (c :: r) = false := by
      cases e : y.isPrefixOf (c :: r) with
      | false => rfl
      | true => exact absurd (isP_iff.mp e) (h 0 (Nat.succ_pos _))
    show (if y.isPrefixOf (c :: r) = true then _ else c :: repl y z n r) = _
    rw [h0]
    simp only [Bool.false_eq_true, if_false]
    rw [repl_skip (k := k) (fun j hj => by have := h (j + 1) (by omega); simpa using this) (by simpa using h1) (by omega)]
    simp
theorem repl_hit {y z : List Nat} {n : Nat} {l : List Nat} (hy : y ≠ []) (h : y <+: l) (hn : l.length ≤ n) : repl y z n l = z ++ repl y z (n - 1) (l.drop y.length) := by
  cases n with
  | zero =>
    have : l = [] := List.length_eq_zero_iff.mp (by omega)
    subst this
    exact absurd (List.prefix_nil.mp h) hy
  | succ n =>
    cases l with
    | nil => exact absurd (List.prefix_nil.mp h) hy
    | cons c r =>
      show (if y.isPrefixOf (c :: r) = true then _ else c :: repl y z n r) = _
      rw [isP_iff.mpr h]
      rfl
theorem join_cons2 (z p q : Str) (r : List Str) : (Str.join z (p :: q :: r)).cps.toList = p.cps.toList ++ z.cps.toList ++ (Str.join z (q :: r)).cps.toList := by
  show ((p ++ z ++ Str.join z (q :: r)).cps).toList = _
  rw [Str.cps_append, Str.cps_append]
  simp
theorem join_cuts {l y z : List Nat} (hy : y ≠ []) : ∀ (cuts : List Nat) (a f n : Nat), a ≤ l.length → ChainG ⟨l.toArray⟩ ⟨y.toArray⟩ l.length a cuts f → (∀ k, f ≤ k → ¬ At ⟨l.toArray⟩ ⟨y.toArray⟩ l.length k) → l.length - a ≤ n →
    (Str.join ⟨z.toArray⟩ (partsFrom ⟨l.toArray⟩ y.length a cuts)).cps.toList = repl y z n (l.drop a)
  | [], a, f, n, ha, hc, hn, hf => by
    have e : f = a := hc
    subst e
    show (strSub _ _ _).cps.toList = _
    rw [strSub_toList, repl_none]
    · simp only [Str.length, List.size_toArray]
      exact List.take_of_length_le (by simp)
    · intro k hk hp
      rw [List.drop_drop] at hp
      exact hn (f + k) (by omega) (at_iff.mpr ⟨by simp at hk; omega, hp⟩)
  | c :: r, a, f, n, ha, hc, hn, hf => by
    obtain ⟨hac, hA, hfree, hr⟩ := hc
    obtain ⟨hcl, hp⟩ := at_iff.mp hA
    have hyl : y.length ≤ (l.drop c).length := hp.length_le
    rw [List.length_drop] at hyl
    have hyp : 0 < y.length := List.length_pos_iff.mpr hy
    obtain ⟨p, q, e⟩ := partsFrom_ne ⟨l.toArray⟩ y.length (c + y.length) r
    show (Str.join ⟨z.toArray⟩ (strSub ⟨l.toArray⟩ a c :: partsFrom ⟨l.toArray⟩ y.length (c + y.length) r)).cps.toList = _
    rw [e, join_cons2, ← e, strSub_toList]
    have hr' : ChainG ⟨l.toArray⟩ ⟨y.toArray⟩ l.length (c + y.length) r f := hr
    rw [join_cuts hy r (c + y.length) f (n - (c - a) - 1) (by omega) hr' hn (by omega)]
    rw [repl_skip (k := c - a) (n := n) (l := l.drop a) (fun j hj hp' => by
      rw [List.drop_drop] at hp'
      exact hfree (a + j) (by omega) (by omega) (at_iff.mpr ⟨by omega, hp'⟩)) (by simp; omega) (by omega)]
    rw [List.drop_drop, show a + (c - a) = c from by omega]
    rw [repl_hit (l := l.drop c) hy hp (by simp; omega), List.drop_drop]
    simp
theorem replace_is {l y z : List Nat} (hy : y ≠ []) : Txt.replace ⟨l.toArray⟩ ⟨y.toArray⟩ ⟨z.toArray⟩ = ⟨(replace y z l).toArray⟩ := by
  obtain ⟨f, hc, hn⟩ := occ_tight ⟨l.toArray⟩ ⟨y.toArray⟩ (by simp [Str.length]; exact List.length_pos_iff.mpr hy)
  have hlen : (⟨l.toArray⟩ : Str).length = l.length := by simp [Str.length]
  have hylen : (⟨y.toArray⟩ : Str).length = y.length := by simp [Str.length]
  rw [hlen] at hc hn
  have key := join_cuts (z := z) hy _ 0 f l.length (Nat.zero_le _) hc hn (by omega)
  rw [List.drop_zero] at key
  have hy0 : ((⟨y.toArray⟩ : Str).length == 0) = false := by
    rw [hylen]
    simp; exact hy
  unfold Txt.replace
  rw [hy0, Bool.false_and, Bool.or_false, hlen, hylen]
  split
  · rename_i he
    have : occurrences ⟨l.toArray⟩ ⟨y.toArray⟩ 0 l.length (l.length + 1) = [] := List.isEmpty_iff.mp he
    rw [this] at key
    have h2 : (Str.join ⟨z.toArray⟩ (partsFrom ⟨l.toArray⟩ y.length 0 [])).cps.toList = l := by
      show (strSub _ _ _).cps.toList = _
      rw [strSub_toList]; simp [Str.length]
    rw [h2] at key
    unfold replace
    rw [← key]
  · rw [partsBetween_eq, glued_eq_join]
    unfold replace
    rw [← key]
theorem repl_len {y z : List Nat} (hy : y ≠ []) : ∀ {n : Nat} {l : List Nat}, (repl y z n l).length ≤ l.length + l.length * z.length
  | 0, l => by show l.length ≤ _; omega
  | n + 1, [] => by simp [repl]
  | n + 1, c :: r => by
    show (if y.isPrefixOf (c :: r) = true then _ else c :: repl y z n r).length ≤ _
    have hyp : 0 < y.length := List.length_pos_iff.mpr hy
    split
    · have := repl_len (y := y) (z := z) hy (n := n) (l := (c :: r).drop y.length)
      rw [List.length_append]
      rw [List.length_drop] at this
      have h2 : ((c :: r).length - y.length) * z.length ≤ (c :: r).length * z.length - z.length := by
        rw [List.length_cons]
        have : (r.length + 1 - y.length) * z.length ≤ r.length * z.length := Nat.mul_le_mul_right _ (by omega)
        rw [Nat.succ_mul]; omega
      have h3 : z.length ≤ (c :: r).length * z.length := by rw [List.length_cons, Nat.succ_mul]; omega
      rw [List.length_cons] at *
      omega
    · have := repl_len (y := y) (z := z) hy (n := n) (l := r)
      rw [List.length_cons, List.length_cons, Nat.succ_mul]
      omega
theorem replace_len {y z l : List Nat} (hy : y ≠ []) : (replace y z l).length ≤ l.length + l.length * z.length := repl_len hy

theorem inStr_iff {y : List Nat} : ∀ {l : List Nat}, inStr y l = true ↔ ∃ i, i ≤ l.length ∧ y <+: l.drop i
  | [] => by
    simp only [inStr, List.isEmpty_iff]
    constructor
    · intro h; subst h; exact ⟨0, Nat.le_refl _, List.nil_prefix⟩
    · intro ⟨i, _, h⟩; simpa using h
  | c :: r => by
    simp only [inStr, Bool.or_eq_true, isP_iff, inStr_iff (l := r)]
    constructor
    · rintro (h | ⟨i, hi, h⟩)
      · exact ⟨0, Nat.zero_le _, h⟩
      · exact ⟨i + 1, by simpa using hi, by simpa using h⟩
    · rintro ⟨i, hi, h⟩
      cases i with
      | zero => exact .inl h
      | succ i => exact .inr ⟨i, by simpa using hi, by simpa using h⟩
theorem contains_is {l y : List Nat} : Txt.contains ⟨l.toArray⟩ ⟨y.toArray⟩ = inStr y l := by
  rw [Bool.eq_iff_iff, inStr_iff]
  refine (found_iff _ _).trans ?_
  have : ∀ i, (i + (⟨y.toArray⟩ : Str).length ≤ (⟨l.toArray⟩ : Str).length ∧ subAt ⟨l.toArray⟩ ⟨y.toArray⟩ i = true) ↔ (i ≤ l.length ∧ y <+: l.drop i) := fun i => by
    rw [← at_iff]
    unfold StrLaws.At
    simp [Str.length]
  simp only [this]

theorem clip_is (i : Int) (n : Nat) : max (0 : Int) (min (if i < 0 then i + n else i) n) = (clamp i n : Int) := by
  unfold clamp
  split <;> omega
theorem idx_some (i j : Option Int) (n : Nat) : strSliceIndices i j 1 n = strSliceIndices (some ((((i.map fun i => clamp i n).getD 0 : Nat)) : Int)) (some ((((j.map fun i => clamp i n).getD n : Nat)) : Int)) 1 n := by
  have h1 : (1 : Int) > 0 := by decide
  unfold strSliceIndices
  simp only [h1, if_true]
  congr 1
  · cases i with
    | none => simp; omega
    | some i =>
      simp only [Option.map_some, Option.getD_some]
      rw [clip_is, clip_is]
      unfold clamp
      split <;> (try split) <;> omega
  · cases j with
    | none => simp; omega
    | some i =>
      simp only [Option.map_some, Option.getD_some]
      rw [clip_is, clip_is]
      unfold clamp
      split <;> (try split) <;> omega
theorem clamp_le (i : Int) (n : Nat) : clamp i n ≤ n := by
  unfold clamp; split <;> omega
theorem slc_picked (l : List Nat) (lo hi : Option Int) : (strSliceIndices lo hi 1 l.length).filterMap (l.toArray[·]?) = slc l lo hi := by
  rw [idx_some]
  unfold slc
  have ha : (lo.map fun i => clamp i l.length).getD 0 ≤ l.length := by cases lo <;> simp [clamp_le]
  have hb : (hi.map fun i => clamp i l.length).getD l.length ≤ l.length := by cases hi <;> simp [clamp_le]
  generalize (lo.map fun i => clamp i l.length).getD 0 = a at *
  generalize (hi.map fun i => clamp i l.length).getD l.length = b at *
  rcases Nat.lt_or_ge b a with hab | hab
  rotate_left
  · rw [strSliceIndices_plain hab hb]
    have : (fun (x : Nat) => l.toArray[x]?) = (fun (x : Nat) => l[x]?) := by funext x; simp
    rw [this, picks l (b - a) a (by omega), List.drop_take]
  · have : strSliceIndices (some (a : Int)) (some (b : Int)) 1 l.length = [] := by
      unfold strSliceIndices sliceRange
      simp only [show (1 : Int) > 0 by decide, if_true]
      rw [if_neg (by omega : ¬ ((a : Int) < 0)), if_neg (by omega : ¬ ((b : Int) < 0))]
      have : ¬ (max (0 : Int) (min (a : Int) l.length) < max (0 : Int) (min (b : Int) l.length)) := by omega
      simp [this]
    rw [this, List.drop_eq_nil_of_le (by simp; omega)]
    rfl
theorem slc_len (l : List Nat) (lo hi : Option Int) : (slc l lo hi).length ≤ l.length := by
  unfold slc
  simp
  omega
theorem slc_all (l : List Nat) (lo hi : Option Int) (h : (strSliceIndices lo hi 1 l.length).length = l.length) : slc l lo hi = l := by
  rw [← slc_picked]
  rw [idx_some] at h ⊢
  have ha : (lo.map fun i => clamp i l.length).getD 0 ≤ l.length := by cases lo <;> simp [clamp_le]
  have hb : (hi.map fun i => clamp i l.length).getD l.length ≤ l.length := by cases hi <;> simp [clamp_le]
  generalize (lo.map fun i => clamp i l.length).getD 0 = a at *
  generalize (hi.map fun i => clamp i l.length).getD l.length = b at *
  have h2 : a = 0 ∧ b = l.length ∨ l = [] := by
    rcases Nat.lt_or_ge b a with hab | hab
    rotate_left
    · rw [strSliceIndices_plain hab hb] at h
      simp at h
      rcases Nat.eq_zero_or_pos l.length with z | z
      · exact .inr (List.length_eq_zero_iff.mp z)
      · exact .inl (by omega)
    · unfold strSliceIndices sliceRange at h
      simp only [show (1 : Int) > 0 by decide, if_true] at h
      rw [if_neg (by omega : ¬ ((a : Int) < 0)), if_neg (by omega : ¬ ((b : Int) < 0))] at h
      simp at h
      exact .inr (List.length_eq_zero_iff.mp (by omega))
  rcases h2 with ⟨rfl, rfl⟩ | rfl
  · have : (fun (x : Nat) => l.toArray[x]?) = (fun (x : Nat) => l[x]?) := by funext x; simp
    rw [strSliceIndices_plain (Nat.zero_le _) (Nat.le_refl _), this, picks l _ 0 (by omega)]
    simp
  · simp

theorem nidx_is {i : Int} {n j : Nat} (h : nidx i n = some j) : seqIndex? i n = some j ∧ j < n ∧ -(n : Int) ≤ i ∧ i < n := by
  unfold nidx at h
  unfold seqIndex?
  split at h
  · split at h
    · cases h
      have hi : ¬ i < 0 := by omega
      simp only [hi, if_false]
      refine ⟨?_, by assumption, by omega, by omega⟩
      rw [if_pos (by simp; omega)]
    · cases h
  · split at h
    · cases h
      have hi : i < 0 := by omega
      simp only [hi, if_true]
      refine ⟨?_, by omega, by omega, by omega⟩
      rw [if_pos (by simp; omega)]
    · cases h
end Mine

end

section
open PySem PySem.Calls PyProof.Rows PySem.W
namespace Mine

/-- the law's own constants: the program, the world, where things stand -/
structure Cx where
  prog : Program
  w : World
  L : Pl
  F : List Fn
  X : Hp
  G : Heap
  globs : List Str
  mg : Str → Option Value
  mb : Str → Option Value

noncomputable def Bi.value : Bi → Value
  | .len => .builtin "len" | .abs => .builtin "abs" | .min => .builtin "min" | .range => .type "range" | .list => .type "list"

structure Cx.Ok (C : Cx) : Prop where
  nolimit : C.G.NoLimit
  booked : NoneBooked C.G
  g : C.G.Ns mainGlobals C.mg
  b : C.G.Ns builtinsNs C.mb
  fn : ∀ (i : Nat) (a : Addr), C.L.fa[i]? = some a → C.mg (C.globs.getD i default) = some (.ref a) ∧ ∃ o fd, C.G.get? a = some o ∧ o.data = .func fd
  fns : ∀ i : Nat, i < C.globs.length → ∃ a, C.L.fa[i]? = some a
  bi : ∀ n : Bi, C.mg (Str.ofString n.name) = none ∧ C.mb (Str.ofString n.name) = some n.value
  ext : ∀ (j : Nat) (o : O), C.X[j]? = some o → ∃ a ob, C.L.xa[j]? = some a ∧ C.G.get? a = some ob ∧ OR C.w C.L [] 0 o ob ∧ ((∀ vs, o ≠ O.list vs) → (a == sysModules) = false)

structure EnvOk (C : Cx) (N : Nm) (sc : Scope) (env : Env) (P : Pf) : Prop where
  scp : env.scope = sc
  kind : sc.kind = .function
  loc : env.locals = P.A
  cells : env.cells = P.cs
  vis : ∀ x, sc.names.lookup x = some .local ∨ sc.names.lookup x = some .cell → P.vis x = true
  kc : ∀ x, sc.names.lookup x = some .cell → ∃ c, P.cs.lookup x = some c
  kl : ∀ x, sc.names.lookup x = some .local → P.cs.lookup x = none
  apart : ∀ n n' c, P.cs.lookup n = some c → P.cs.lookup n' = some c → n = n'
  glo : env.globals = mainGlobals
  blt : env.builtins = builtinsNs
  gl : N.globs = C.globs
  nd : N.slots.Nodup

structure AOk (A : Around) (d : Nat) : Prop where
  hd : A.handled = none
  dep : A.depth + d < recursionLimit
  un : A.units + 3 * d + 100 < cLine

noncomputable def Pst (C : Cx) (s : Shared) (β : List Addr) (h' : Hp) (v : V) (Q : Value → Shared → Prop) : Prop :=
  ∀ x β' H' T', s.toks ≤ T' → Ext β s.heap β' H' → Gd C.w C.L C.G β' T' h' H' → VR C.L β' T' v x → Q x { s with heap := H', toks := T' }

noncomputable def SEv (C : Cx) (S : Sm) (d : Nat) : Prop :=
  ∀ (e : ME) (N : Nm) (sc : Scope) (env : Env) (A₀ : Pf) (A : Around) (m : M) (h h' : Hp) (v : V), e.ok N sc = true → EnvOk C N sc env A₀ → AOk A d → S.ev e m h = some (v, h') →
  ∀ (s : Shared) (β : List Addr) (Q : Value → Shared → Prop) (E : Value → Shared → Prop), Gd C.w C.L C.G β s.toks h s.heap → Frm C.L C.G N β s.toks m A₀ s.heap → Pst C s β h' v Q → wpAny (model C.prog C.w) A (eval (e.back N) env) Q E s

noncomputable def SCl (C : Cx) (S : Sm) (d : Nat) : Prop :=
  ∀ (g : Nat) (vs : List V) (h h' : Hp) (v : V) (A : Around), AOk A d → S.cl g vs h = some (v, h') →
  ∀ (s : Shared) (β : List Addr) (a : Addr) (xs : List Value) (R : Result → Shared → Prop), C.L.fa[g]? = some a → All2 (VR C.L β s.toks) vs xs → Gd C.w C.L C.G β s.toks h s.heap →
  Pst C s β h' v (fun x s' => R (.ok (.ret x)) s') → codeAny (model C.prog C.w) A (.call (.ref a) ⟨xs, []⟩) R s

section
variable {C : Cx} {N : Nm} {sc : Scope} {env : Env} {A₀ : Pf} {A : Around} {d : Nat} {m : M} {h h' : Hp} {v : V} {s : Shared} {β : List Addr} {Q : Value → Shared → Prop} {E : Value → Shared → Prop} {S : Sm}

/-- what is to be shown of an expression -/
noncomputable def GE (C : Cx) (N : Nm) (env : Env) (A : Around) (Q : Value → Shared → Prop) (E : Value → Shared → Prop) (s : Shared) (e : ME) : Prop := wpAny (model C.prog C.w) A (eval (e.back N) env) Q E s
/-- what is to be shown of a statement -/
noncomputable def GX (C : Cx) (N : Nm) (env : Env) (A : Around) (Q : Flow → Shared → Prop) (E : Value → Shared → Prop) (s : Shared) (t : MS) : Prop := wpAny (model C.prog C.w) A (exec (t.back N) env) Q E s
theorem Pst.same (pst : Pst C s β h v Q) (G : Gd C.w C.L C.G β s.toks h s.heap) {x : Value} {T : Nat} (ht : s.toks ≤ T) (r : VR C.L β T v x) : Q x { s with toks := T } :=
  pst x β s.heap T ht (Ext.refl _ _) (G.toks ht) r
theorem Pst.here (pst : Pst C s β h v Q) (G : Gd C.w C.L C.G β s.toks h s.heap) {x : Value} (r : VR C.L β s.toks v x) : Q x s :=
  pst x β s.heap s.toks (Nat.le_refl _) (Ext.refl _ _) G r
/-- behind a first step -/
theorem Pst.step {β' : List Addr} {H' : Heap} {T' : Nat} (pst : Pst C s β h' v Q) (ht : s.toks ≤ T') (x : Ext β s.heap β' H') : Pst C { s with heap := H', toks := T' } β' h' v Q :=
  fun y β'' H'' T'' ht' x' g r => pst y β'' H'' T'' (Nat.le_trans ht ht') (x.trans x') g r

theorem bind_some {α γ : Type} {o : Option α} {f : α → Option γ} {c : γ} (e : o.bind f = some c) : ∃ a, o = some a ∧ f a = some c := by
  cases o with
  | none => cases e
  | some a => exact ⟨a, rfl, e⟩
theorem map_some {α γ : Type} {o : Option α} {f : α → γ} {c : γ} (e : o.map f = some c) : ∃ a, o = some a ∧ f a = c := by
  cases o with
  | none => cases e
  | some a => exact ⟨a, rfl, Option.some.inj e⟩

theorem obj_at (ok0 : C.Ok) {T : Nat} {H : Heap} (g : Gd C.w C.L C.G β T h H) {v : V} {o : O} (e : obj C.X h v = some o) {x : Value} (r : VR C.L β T v x) :
    ∃ a ob, x = .ref a ∧ H.get? a = some ob ∧ OR C.w C.L β T o ob ∧ ((∀ vs, o ≠ O.list vs) → (a == sysModules) = false) := by
  cases v with
  | ref k =>
    obtain ⟨a, ha, rfl⟩ := r
    obtain ⟨ob, q, z⟩ := g.objs k o a e ha
    exact ⟨a, ob, rfl, q, z.1, fun _ => g.big a (List.mem_of_getElem? ha)⟩
  | ext j =>
    obtain ⟨a, ha, rfl⟩ := r
    obtain ⟨a', ob, ha', q, z, lo⟩ := ok0.ext j o e
    rw [ha] at ha'; cases ha'
    exact ⟨a, ob, rfl, g.base _ _ q, z.mono ⟨β, rfl⟩ (Nat.zero_le _), lo⟩
  | _ => cases e

theorem OR.isList {w : World} {L : Pl} {T : Nat} {vs : List V} {ob : Obj} {H : Heap} {a : Addr} (q : H.get? a = some ob) (r : OR w L β T (.list vs) ob) : ∃ items, H.IsList a items ∧ All2 (VR L β T) vs items.toList ∧ vs.length ≤ LIM := by
  obtain ⟨items, n, d, sl, rfl, al, le⟩ := r
  exact ⟨items, ⟨_, q, rfl, n, rfl⟩, al, le⟩
theorem keys_dict {w : World} {L : Pl} {T : Nat} {rep : Bool} : ∀ {es : List (List Nat × V)} {ents : List DictEntry}, All2 (ER w L β T rep) es ents → ∀ e ∈ ents, ∃ k, Value.isStrOf k e.key = true ∧ e.hash = hashStr w k
  | [], [], _, _, hm => nomatch hm
  | [], _ :: _, al, _, _ => al.elim
  | _ :: _, [], al, _, _ => al.elim
  | e :: es, d :: ents, al, e', hm => by
    cases hm with
    | head =>
      obtain ⟨t, h1, h2, _⟩ := al.1
      exact ⟨⟨e.1.toArray⟩, by rw [h1]; exact beq_self_eq_true _, h2⟩
    | tail _ hm => exact keys_dict al.2 e' hm
theorem isStrOf_key {k k' : List Nat} {t : Tok} : Value.isStrOf ⟨k.toArray⟩ (.str ⟨k'.toArray⟩ t) = (k' == k) := by
  show (_ == _) = _
  rw [Bool.eq_iff_iff]
  simp only [beq_iff_eq]
  constructor
  · intro e
    have := congrArg (fun x : Str => x.cps.toList) e
    first | exact this | exact this.symm
  · rintro rfl; rfl
theorem es_len {w : World} {L : Pl} {T : Nat} {rep : Bool} {es : List (List Nat × V)} {ents : List DictEntry} (al : All2 (ER w L β T rep) es ents) : es.length = ents.length := al.length

theorem ev_loc {i : Nat} {p : Pos} (V₀ : EnvOk C N sc env A₀) (ok : ME.ok N sc (.loc i p) = true) (e : stepE C.X S (.loc i p) m h = some (v, h')) (G : Gd C.w C.L C.G β s.toks h s.heap) (F : Frm C.L C.G N β s.toks m A₀ s.heap) (pst : Pst C s β h' v Q) :
    GE C N env A Q E s (ME.loc i p) := by
  replace ok := (show (_ && _) = true from ok)
  simp only [Bool.and_eq_true, Bool.not_eq_true', beq_iff_eq, decide_eq_true_eq] at ok
  obtain ⟨v', e1, e2⟩ := map_some e
  cases e2
  obtain ⟨⟨f, hn, l⟩, cl, _, _⟩ := F
  rcases Bool.or_eq_true _ _ |>.mp ok.1.2 with hk | hk
  · replace hk := beq_iff_eq.mp hk
    obtain ⟨y, hy, r⟩ := l i v ok.1.1 e1 (V₀.vis _ (.inl hk)) (V₀.kl _ hk)
    exact wpAny_Name (wpAny_loadName_local (by rw [V₀.scp]; exact V₀.kind) (by unfold Env.kindOf; rw [V₀.scp]; exact hk) (by rw [V₀.loc]; exact hn) hy (pst.here G r)) ok.2
  · replace hk := beq_iff_eq.mp hk
    obtain ⟨c, hc⟩ := V₀.kc _ hk
    obtain ⟨w, hw, l⟩ := cl _ c hc
    obtain ⟨y, rfl, r⟩ := l i v ok.1.1 rfl e1
    exact wpAny_Name (wpAny_loadName_cell (by rw [V₀.scp]; exact V₀.kind) (by unfold Env.kindOf; rw [V₀.scp]; exact hk) (by rw [V₀.cells]; exact hc) hw (pst.here G r)) ok.2

theorem ev_glob {i : Nat} {p : Pos} (ok0 : C.Ok) (V₀ : EnvOk C N sc env A₀) (ok : ME.ok N sc (.glob i p) = true) (e : stepE C.X S (.glob i p) m h = some (v, h')) (G : Gd C.w C.L C.G β s.toks h s.heap) (pst : Pst C s β h' v Q) :
    GE C N env A Q E s (ME.glob i p) := by
  replace ok := (show (_ && _) = true from ok)
  simp only [Bool.and_eq_true, Bool.not_eq_true', beq_iff_eq, decide_eq_true_eq] at ok
  cases e
  obtain ⟨a, ha⟩ := ok0.fns i (by rw [← V₀.gl]; exact ok.1.1)
  have h1 := (ok0.fn i a ha).1
  refine Name_function_global (by rw [V₀.scp]; exact V₀.kind) (by unfold Env.kindOf; rw [V₀.scp]; exact ok.1.2) (loadGlobal_global (mg := C.mg) (by rw [V₀.glo]; exact ok0.g.keeps G.base) (by rw [V₀.gl]; exact h1) (pst.here G ⟨a, ha, rfl⟩)) ok.2

theorem vr_lit {L : Pl} {t T : Nat} (x : String) (h0 : 0 < t) (h1 : t < T) (hl : (lit x).length ≤ LIM) : VR L β T (.str (lit x)) (.str (Str.ofString x) t) := ⟨t, by rfl, h0, h1, hl⟩

theorem ev_cst {c : C0} {p : Pos} (ok : ME.ok N sc (.cst c p) = true) (e : stepE C.X S (.cst c p) m h = some (v, h')) (G : Gd C.w C.L C.G β s.toks h s.heap) (pst : Pst C s β h' v Q) :
    GE C N env A Q E s (ME.cst c p) := by
  cases e
  have hl : ∀ x, c = .str x → (lit x).length ≤ LIM := by
    rintro x rfl
    replace ok := of_decide_eq_true (show decide ((lit x).length ≤ 1000) = true from ok)
    unfold LIM; omega
  cases c with
  | none => exact fun _ _ _ => pst.here G rfl
  | bool b => exact fun _ _ _ => pst.here G rfl
  | int i => exact wpAny_Constant_int (pst.same G (Nat.le_succ _) ⟨_, rfl⟩)
  | str x => exact Constant_str (pst.same G (Nat.le_succ _) (vr_lit x G.pos (Nat.lt_succ_self _) (hl x rfl)))

/-- a text made by a built-in: the old value, or a new one -/
theorem made_str {l : List Nat} (G : Gd C.w C.L C.G β s.toks h s.heap) (pst : Pst C s β h (.str l) Q) {c : Bool} {x y : Str} {t : Tok} (hx : c = true → VR C.L β s.toks (.str l) (.str x t)) (hy : c = false → y = ⟨l.toArray⟩ ∧ l.length ≤ LIM) :
    (if c = true then Made.val (.str x t) else Made.str y).post Q s := by
  cases c with
  | true => exact pst.here G (hx rfl)
  | false =>
    obtain ⟨rfl, h1⟩ := hy rfl
    refine ⟨by rw [sizeLine_eq]; simp [Str.length]; exact h1, pst.same G (Nat.le_succ _) ⟨_, rfl, G.pos, Nat.lt_succ_self _, h1⟩⟩

theorem add_str_sound {x y : List Nat} {a b : Value} (G : Gd C.w C.L C.G β s.toks h s.heap) (ra : VR C.L β s.toks (.str x) a) (rb : VR C.L β s.toks (.str y) b) (hl : x.length + y.length ≤ LIM) (pst : Pst C s β h (.str (x ++ y)) Q) :
    wpAny (model C.prog C.w) A (binaryOp .Add a b) Q E s := by
  obtain ⟨t, rfl, t0, t1, _⟩ := ra
  obtain ⟨u, rfl, u0, u1, _⟩ := rb
  refine P.add_str ?_
  by_cases hx : ((⟨x.toArray⟩ : Str).length == 0) = true
  · rw [if_pos hx]
    have : x = [] := by simpa [Str.length] using hx
    subst this
    exact pst.here G ⟨u, rfl, u0, u1, by simpa using hl⟩
  · rw [if_neg hx]
    by_cases hy : ((⟨y.toArray⟩ : Str).length == 0) = true
    · rw [if_pos hy]
      have : y = [] := by simpa [Str.length] using hy
      subst this
      exact pst.here G ⟨t, by simp, t0, t1, by simpa using hl⟩
    · rw [if_neg hy]
      refine ⟨by rw [sizeLine_eq, Str.length_append]; simp [Str.length]; exact hl, pst.same G (Nat.le_succ _) ⟨_, ?_, G.pos, Nat.lt_succ_self _, by rw [List.length_append]; exact hl⟩⟩
      congr 1
      exact Str.ext' (by rw [Str.cps_append]; simp)
end
end Mine

end

section
open PySem PySem.Calls PyProof.Rows PySem.W
namespace Mine
section
variable {C : Cx} {N : Nm} {sc : Scope} {env : Env} {A₀ : Pf} {A : Around} {d : Nat} {m : M} {h h' : Hp} {v : V} {s : Shared} {β : List Addr} {Q : Value → Shared → Prop} {E : Value → Shared → Prop} {S : Sm}

theorem intBits_small {a : Int} (h : a.natAbs ≤ LIM) : Builtin.Int.intBits a ≤ 64 := by
  unfold Builtin.Int.intBits
  have : a.natAbs.log2 ≤ 24 := by
    have h2 : a.natAbs < 2 ^ 25 := by unfold LIM at h; omega
    by_cases h0 : a.natAbs = 0
    · rw [h0]; decide
    · have := (Nat.log2_lt h0).mpr h2
      omega
  first | omega | (split <;> omega)

theorem binop_sound {op : Operator} {x y v : V} {a b : Value} (hA : A.handled = none) (G : Gd C.w C.L C.G β s.toks h s.heap) (e : binop op x y = some v) (ra : VR C.L β s.toks x a) (rb : VR C.L β s.toks y b)
    (hm : ∀ f z, op = .Mod → x = .str f → y = .str z → ∀ (u t : Tok), wpAny (model C.prog C.w) A (binaryOp .Mod (.str ⟨f.toArray⟩ t) (.str ⟨z.toArray⟩ u)) Q E s)
    (pst : Pst C s β h v Q) : wpAny (model C.prog C.w) A (binaryOp op a b) Q E s := by
  unfold binop at e
  split at e
  · split at e
    · obtain ⟨t, rfl⟩ := ra; obtain ⟨u, rfl⟩ := rb
      unfold binI at e
      split at e
      · cases e
        exact PyProof.Rows.add_int (pst.same G (Nat.le_succ _) ⟨_, rfl⟩)
      · cases e
        exact PyProof.Rows.sub_int (pst.same G (Nat.le_succ _) ⟨_, rfl⟩)
      · split at e
        · rename_i hl
          cases e
          exact PyProof.Rows.mul_int (pst.same G (Nat.le_succ _) ⟨_, rfl⟩) (IntMulOk.of_left (intBits_small hl))
        · cases e
      · split at e
        · cases e
        · rename_i hy
          split at e
          · rename_i hl
            cases e
            exact floordiv_int_or hA (fun z => absurd z hy) (fun _ => pst.same G (Nat.le_succ _) ⟨_, rfl⟩) (fun _ => .inl (PyProof.noPylong_small (by unfold LIM at hl; omega)))
          · cases e
      · split at e
        · cases e
        · rename_i hy
          cases e
          exact mod_int_or hA (fun z => absurd z hy) (fun _ => pst.same G (Nat.le_succ _) ⟨_, rfl⟩)
      · cases e
    · cases e
  · split at e
    · unfold binS at e
      split at e
      · split at e
        · cases e; exact add_str_sound G ra rb (by assumption) pst
        · cases e
      · obtain ⟨t, rfl, _⟩ := ra; obtain ⟨u, rfl, _⟩ := rb
        exact hm _ _ rfl rfl rfl u t
      · cases e
    · cases e
  · cases e

theorem pairs_dict {prog : Program} {w : World} {L : Pl} {T : Nat} {rep : Bool} : ∀ {es : List (List Nat × V)} {ents : List DictEntry}, All2 (ER w L β T rep) es ents →
    ∃ kvs : List (Str × Value), PySem.Pairs (strKind prog w) ents kvs ∧ All2 (fun (e : List Nat × V) (kv : Str × Value) => kv.1 = ⟨e.1.toArray⟩ ∧ VR L β T e.2 kv.2) es kvs
  | [], [], _ => ⟨[], .nil, trivial⟩
  | e :: es, d :: ents, al => by
    obtain ⟨kvs, h1, h2⟩ := pairs_dict (prog := prog) al.2
    obtain ⟨t, k1, k2, k3, _⟩ := al.1
    exact ⟨(⟨e.1.toArray⟩, d.val) :: kvs, .cons (by rw [k1]; exact beq_self_eq_true _) rfl h1, ⟨rfl, k3⟩, h2⟩
  | [], _ :: _, al => al.elim
  | _ :: _, [], al => al.elim
theorem keys_nd {L : Pl} {T : Nat} : ∀ {es : List (List Nat × V)} {kvs : List (Str × Value)}, All2 (fun (e : List Nat × V) (kv : Str × Value) => kv.1 = ⟨e.1.toArray⟩ ∧ VR L β T e.2 kv.2) es kvs → (es.map (·.1)).Nodup → (kvs.map (·.1)).Nodup
  | [], [], _, _ => .nil
  | e :: es, kv :: kvs, al, nd => by
    rw [List.map_cons, List.nodup_cons] at nd ⊢
    refine ⟨fun hm => nd.1 ?_, keys_nd al.2 nd.2⟩
    rw [al.1.1] at hm
    have : ∀ {es : List (List Nat × V)} {kvs : List (Str × Value)}, All2 (fun (e : List Nat × V) (kv : Str × Value) => kv.1 = ⟨e.1.toArray⟩ ∧ VR L β T e.2 kv.2) es kvs → (⟨e.1.toArray⟩ : Str) ∈ kvs.map (·.1) → e.1 ∈ es.map (·.1) := by
      intro es
      induction es with
      | nil => intro kvs al hm; cases kvs with
        | nil => cases hm
        | cons _ _ => exact al.elim
      | cons e' es ih =>
        intro kvs al hm
        cases kvs with
        | nil => exact al.elim
        | cons kv kvs =>
          rw [List.map_cons] at hm ⊢
          rcases List.mem_cons.mp hm with q | q
          · rw [al.1.1] at q
            have e2 := congrArg (fun x : Str => x.cps.toList) q
            have e3 : e.1 = e'.1 := e2
            rw [e3]; exact .head _
          · exact .tail _ (ih al.2 q)
    exact this al.2 hm
  | [], _ :: _, al, _ => al.elim
  | _ :: _, [], al, _ => al.elim
theorem OR.isDictAt {prog : Program} {w : World} {L : Pl} {T : Nat} {rep : Bool} {ep : Nat} {es : List (List Nat × V)} {ob : Obj} {H : Heap} {a : Addr} (q : H.get? a = some ob) (r : OR w L β T (.dict rep ep es) ob) :
    ∃ kvs : List (Str × Value), H.DictAt (strKind prog w) a kvs ep ∧ All2 (fun (e : List Nat × V) (kv : Str × Value) => kv.1 = ⟨e.1.toArray⟩ ∧ VR L β T e.2 kv.2) es kvs := by
  obtain ⟨ents, rfl, al, nd, le⟩ := r
  obtain ⟨kvs, h1, h2⟩ := pairs_dict (prog := prog) al
  exact ⟨kvs, ⟨_, ents, q, ⟨rfl, rfl, rfl⟩, rfl, fun e he => keys_dict al e (Array.mem_toList_iff.mpr he), h1, keys_nd h2 nd⟩, h2⟩
theorem OR.isDict {prog : Program} {w : World} {L : Pl} {T : Nat} {rep : Bool} {ep : Nat} {es : List (List Nat × V)} {ob : Obj} {H : Heap} {a : Addr} (q : H.get? a = some ob) (r : OR w L β T (.dict rep ep es) ob) :
    ∃ kvs : List (Str × Value), H.DictOf (strKind prog w) a kvs ∧ kvs.length = es.length ∧ True := by
  obtain ⟨kvs, ⟨o, es', h1, h2, h3, h4, h5, h6⟩, al⟩ := OR.isDictAt (prog := prog) q r
  exact ⟨kvs, ⟨o, es', ep, h1, h2, h3, h4, h5, h6⟩, al.length.symm, trivial⟩

theorem truth_sound (ok0 : C.Ok) {x : Value} {t : Bool} {Q : Bool → Shared → Prop} (G : Gd C.w C.L C.G β s.toks h s.heap) (r : VR C.L β s.toks v x) (e : truth C.X h v = some t)
    (k : ∀ T, s.toks ≤ T → Q t { s with toks := T }) : wpAny (model C.prog C.w) A (truthy x) Q E s := by
  have onObj : ∀ {v : V}, VR C.L β s.toks v x → (obj C.X h v).bind O.full = some t → wpAny (model C.prog C.w) A (truthy x) Q E s := by
    intro v r e
    obtain ⟨o, e1, e2⟩ := bind_some e
    obtain ⟨a, ob, rfl, q, z, lo⟩ := obj_at ok0 G e1 r
    cases o with
    | list vs =>
      obtain ⟨items, hl, al, le⟩ := OR.isList q z
      have e3 : items.size = vs.length := by rw [← Array.length_toList, al.length]
      refine wpAny_truthy_list hl (by rw [e3]; unfold LIM at le; omega) ?_
      have e4 : (!items.isEmpty) = t := by
        cases e2
        rw [Bool.eq_iff_iff]
        simp only [Array.isEmpty, Bool.not_eq_true', decide_eq_false_iff_not, e3]
        cases vs <;> simp
      rw [e4]; exact k _ (by omega)
    | dict rep ep es =>
      obtain ⟨kvs, hd, hl, _⟩ := OR.isDict (prog := C.prog) q z
      have le : es.length ≤ LIM := let ⟨_, _, _, _, le⟩ := z; le
      refine wpAny_truthy_dict (lo fun vs e => by cases e) hd (by rw [hl]; unfold LIM at le; omega) ?_
      have e4 : (!kvs.isEmpty) = t := by
        cases e2
        rw [Bool.eq_iff_iff]
        cases kvs <;> cases es <;> simp_all
      rw [e4]; exact k _ (by omega)
  cases v with
  | none => cases e; subst r; exact truthy_none (k s.toks (Nat.le_refl _))
  | bool b => cases e; subst r; exact wpAny_truthy_bool (k s.toks (Nat.le_refl _))
  | int i =>
    obtain ⟨u, rfl⟩ := r
    refine PyProof.Rows.truthy_int ?_
    have : (i != 0) = t := by cases e; rw [Bool.eq_iff_iff]; simp
    rw [this]; exact k s.toks (Nat.le_refl _)
  | str l =>
    obtain ⟨u, rfl, _, _, hl⟩ := r
    have hsz : (⟨l.toArray⟩ : Str).length = l.length := by simp [Str.length]
    refine P.truthy_str (by rw [hsz]; unfold LIM at hl; omega) ?_
    have : (((⟨l.toArray⟩ : Str).length : Int) != 0) = t := by
      cases e
      rw [hsz]
      cases l <;> simp
      omega
    rw [this]; exact k _ (by omega)
  | ref j => exact onObj r e
  | ext j => exact onObj r e
  | fn g => cases e
end
end Mine

end

section
open PySem PySem.Calls PyProof.Rows PySem.W
namespace Mine
section
variable {C : Cx} {N : Nm} {sc : Scope} {env : Env} {A₀ : Pf} {A : Around} {d : Nat} {m : M} {h h' : Hp} {v : V} {s : Shared} {β : List Addr} {Q : Value → Shared → Prop} {E : Value → Shared → Prop} {S : Sm}

theorem str_eq_iff {x y : List Nat} : ((⟨x.toArray⟩ : Str) == ⟨y.toArray⟩) = decide (x = y) := by
  rw [Bool.eq_iff_iff]
  simp only [beq_iff_eq, decide_eq_true_eq]
  constructor
  · intro e
    have := congrArg (fun x : Str => x.cps.toList) e
    exact this
  · rintro rfl; rfl

theorem cmpS_sound {op : CmpOp} {x y : List Nat} {t u : Tok} {c : Bool} {Q : Value → Shared → Prop} (e : cmpS op x y = some c) (k : Q (.bool c) s) : wpAny (model C.prog C.w) A (compareOp op (.str ⟨x.toArray⟩ t) (.str ⟨y.toArray⟩ u)) Q E s := by
  have kb : ∀ c', c' = c → Q (.bool c') s := fun c' e => e ▸ k
  unfold cmpS at e
  split at e
  · cases e; exact PyProof.Rows.eq_str (kb _ str_eq_iff)
  · cases e; exact PyProof.Rows.ne_str (kb _ (by rw [bne, str_eq_iff]))
  · cases e; exact PyProof.Rows.in_str (kb _ contains_is)
  · cases e; exact PyProof.Rows.notIn_str (kb _ (congrArg (!·) contains_is))
  · cases e
theorem cmpI_sound {op : CmpOp} {x y : Int} {t u : Tok} {c : Bool} {Q : Value → Shared → Prop} (e : cmpI op x y = some c) (k : Q (.bool c) s) : wpAny (model C.prog C.w) A (compareOp op (.int x t) (.int y u)) Q E s := by
  have kb : ∀ c', c' = c → Q (.bool c') s := fun c' e => e ▸ k
  unfold cmpI at e
  split at e
  · cases e; exact PyProof.Rows.eq_int (kb _ (by rw [Bool.eq_iff_iff]; simp))
  · cases e; exact PyProof.Rows.ne_int (kb _ (by rw [Bool.eq_iff_iff]; simp))
  · cases e; exact PyProof.Rows.lt_int (kb _ rfl)
  · cases e; exact PyProof.Rows.le_int (kb _ rfl)
  · cases e; exact PyProof.Rows.gt_int (kb _ rfl)
  · cases e; exact PyProof.Rows.ge_int (kb _ rfl)
  · cases e

open PySem.SeqAt in
theorem cmp_sound (ok0 : C.Ok) {op : CmpOp} {x y : V} {c : Bool} {a b : Value} {Q : Value → Shared → Prop} (hA : AOk A d) (G : Gd C.w C.L C.G β s.toks h s.heap) (e : cmpop op x y = some c) (ra : VR C.L β s.toks x a) (rb : VR C.L β s.toks y b)
    (k : ∀ T, s.toks ≤ T → Q (.bool c) { s with toks := T }) : wpAny (model C.prog C.w) A (compareOp op a b) Q E s := by
  have k0 : Q (.bool c) s := k s.toks (Nat.le_refl _)
  unfold cmpop at e
  split at e
  · split at e
    · obtain ⟨t, rfl⟩ := ra; obtain ⟨u, rfl⟩ := rb
      exact cmpI_sound e k0
    · cases e
  · split at e
    · obtain ⟨t, rfl, _⟩ := ra; obtain ⟨u, rfl, _⟩ := rb
      exact cmpS_sound e k0
    · cases e
  · cases e
/-- a list beside the empty one -/
theorem nil_sound (ok0 : C.Ok) {x : V} {vs : List V} {a : Value} {b : Addr} {Q : Value → Shared → Prop} (hA : AOk A d) (G : Gd C.w C.L C.G β s.toks h s.heap) (e : obj C.X h x = some (.list vs)) (ra : VR C.L β s.toks x a) (hb : s.heap.IsList b #[])
    (k : Q (.bool vs.isEmpty) s) : wpAny (model C.prog C.w) A (compareOp .Eq a (.ref b)) Q E s := by
  obtain ⟨a, ob, rfl, q, z, _⟩ := obj_at ok0 G e ra
  obtain ⟨items, hl, al, le⟩ := OR.isList q z
  have hsz : items.size = vs.length := by rw [← Array.length_toList, al.length]
  have hu : A.units < cLine := by have := hA.un; omega
  cases vs with
  | nil =>
    refine PySem.SeqAt.eq_listAt (e := fun _ => true) hl hb (by rw [hsz]; rfl) hu (fun j h1 h2 => absurd h2 (Nat.not_lt_zero _)) ?_
    rw [hsz]
    exact k
  | cons v vs => exact PySem.SeqAt.eq_list_lengthsAt hl hb (by rw [hsz]; rfl) hu k

theorem sub_str {e i : Expr} {o j : Value} (hi : ∀ l u p, i ≠ .Slice l u none p) : subscripted i false o j = operate [o, j] (getItem o j) := by
  unfold subscripted
  split
  · rename_i h _; exact absurd rfl (hi _ _ _)
  · rename_i h; cases h
  · rfl
theorem noSlice {N : Nm} : ∀ (e : ME) (l u : Option Expr) (p : Pos), e.back N ≠ .Slice l u none p := by
  intro e l u p
  cases e <;> (try (intro h; cases h))
  rename_i sp ks vs p'
  cases sp <;> (intro h; cases h)

theorem idx_sound (ok0 : C.Ok) {x y v : V} {a b : Value} {ve se : Expr} (G : Gd C.w C.L C.G β s.toks h s.heap) (e : idxv C.X h x y = some v) (ra : VR C.L β s.toks x a) (rb : VR C.L β s.toks y b) (hs : ∀ l u p, se ≠ .Slice l u none p)
    (pst : Pst C s β h v Q) : wpAny (model C.prog C.w) A (subscriptTail ve se a b) Q E s := by
  have onObj : ∀ {o : O} {i : Int} {j : Nat} {x : V}, VR C.L β s.toks x a → VR C.L β s.toks (.int i) b → obj C.X h x = some o → (∀ vs, o = .list vs → (nidx i vs.length).bind (fun j => vs[j]?) = some v) → (∃ vs, o = .list vs) →
      wpAny (model C.prog C.w) A (subscriptTail ve se a b) Q E s := by
    intro o i j x ra rb ho hv hvs
    obtain ⟨u, rfl⟩ := rb
    obtain ⟨a, ob, rfl, q, z, lo⟩ := obj_at ok0 G ho ra
    obtain ⟨vs, hvs⟩ := hvs
    obtain ⟨j, hj, hvj⟩ := bind_some (hv vs hvs)
    obtain ⟨h1, h2, h3, h4⟩ := nidx_is hj
    subst hvs
    · obtain ⟨items, hl, al, le⟩ := OR.isList q z
      obtain ⟨y, hy, r⟩ := al.get hvj
      have hy' : items[j]? = some y := by rw [← Array.getElem?_toList]; exact hy
      have hsz : items.size = vs.length := by rw [← Array.length_toList, al.length]
      refine tail_any hl.typeIs slot_list_getitem.lookup ?_ (sub_str (e := ve) hs)
      unfold LIM at le
      by_cases h0 : 0 ≤ i
      · refine wpAny_getItem_list hl h0 (by omega) ?_ (pst.here G r)
        unfold nidx at hj
        rw [if_pos h0] at hj
        split at hj
        · cases hj; exact hy'
        · cases hj
      · refine wpAny_getItem_list_neg hl (by omega) (by omega) (by omega) ?_ (pst.here G r)
        unfold nidx at hj
        rw [if_neg h0] at hj
        split at hj
        · cases hj; rw [hsz]; exact hy'
        · cases hj
  unfold idxv at e
  split at e
  · split at e
    · rename_i l
      obtain ⟨c, e1, e2⟩ := map_some e
      obtain ⟨j, hj, hc⟩ := bind_some e1
      obtain ⟨h1, h2, h3, h4⟩ := nidx_is hj
      cases e2
      obtain ⟨t, rfl, _, _, hl⟩ := ra
      obtain ⟨u, rfl⟩ := rb
      unfold LIM at hl
      refine tail_any (typeIs_str _ _ _) F.slot_str_getitem.lookup (PySem.P.getItem_str (c := c) ?_ ?_ (pst.same G (Nat.le_succ _) ⟨_, rfl, G.pos, Nat.lt_succ_self _, by unfold LIM; simp⟩)) (sub_str (e := ve) hs)
      · simp; omega
      · have : (⟨l.toArray⟩ : Str).length = l.length := by simp [Str.length]
        rw [this, h1]
        simpa using hc
    · obtain ⟨o, ho, e⟩ := bind_some e
      cases o with
      | list vs => exact onObj ra rb ho (fun vs' h' => by cases h'; exact e) ⟨vs, rfl⟩ (j := 0)
      | dict _ _ _ => cases e
  · cases e
end
end Mine

end

section
open PySem PySem.Calls PyProof.Rows PySem.W
namespace Mine

abbrev dictO (ents : List DictEntry) (ep : Nat) : Obj := ⟨.type "dict", none, .dict ents.toArray ep, #[]⟩
/-- a store into the entries -/
noncomputable def putD (k : List Nat) (t : Tok) (hash : Int) (x : Value) : List DictEntry → List DictEntry
  | [] => [⟨hash, .str ⟨k.toArray⟩ t, x⟩]
  | e :: r => if Value.isStrOf ⟨k.toArray⟩ e.key = true then { e with val := x } :: r else e :: putD k t hash x r
theorem putD_some {k : List Nat} {t : Tok} {hash : Int} {x : Value} : ∀ {ents : List DictEntry} {i : Nat}, (ents.findIdx? fun e => Value.isStrOf ⟨k.toArray⟩ e.key) = some i → ents.modify i (fun e => { e with val := x }) = putD k t hash x ents
  | [], _, h => by simp at h
  | e :: r, i, h => by
    rw [List.findIdx?_cons] at h
    unfold putD
    split at h
    · rename_i hk; cases h; rw [if_pos hk]; rfl
    · rename_i hk
      rw [if_neg hk]
      obtain ⟨j, hj, rfl⟩ := Option.map_eq_some_iff.mp h
      rw [← putD_some hj]; rfl
theorem putD_none {k : List Nat} {t : Tok} {hash : Int} {x : Value} : ∀ {ents : List DictEntry}, (ents.findIdx? fun e => Value.isStrOf ⟨k.toArray⟩ e.key) = none → ents ++ [⟨hash, .str ⟨k.toArray⟩ t, x⟩] = putD k t hash x ents
  | [], _ => rfl
  | e :: r, h => by
    rw [List.findIdx?_cons] at h
    unfold putD
    split at h
    · cases h
    · rename_i hk
      rw [if_neg hk, ← putD_none (Option.map_eq_none_iff.mp h)]; rfl
section
variable {C : Cx} {A : Around} {h : Hp} {v : V} {s : Shared} {β : List Addr} {E : Value → Shared → Prop}

/-- where the key stands: the same on both sides -/
theorem find_idx {w : World} {L : Pl} {T : Nat} {rep : Bool} (k : List Nat) : ∀ {es : List (List Nat × V)} {ents : List DictEntry}, All2 (ER w L β T rep) es ents →
    (ents.findIdx? fun e => Value.isStrOf ⟨k.toArray⟩ e.key) = (es.findIdx? fun e => e.1 == k)
  | [], [], _ => rfl
  | e :: es, d :: ents, al => by
    obtain ⟨t, h1, _⟩ := al.1
    rw [List.findIdx?_cons, List.findIdx?_cons, h1, isStrOf_key, find_idx k al.2]
  | [], _ :: _, al => al.elim
  | _ :: _, [], al => al.elim
theorem ER_weak {w : World} {L : Pl} {β' : List Addr} {T T' : Nat} {rep rep' : Bool} (hp : Pre β β') (ht : T ≤ T') (hr : rep' = true → rep = true) {e : List Nat × V} {d : DictEntry} : ER w L β T rep e d → ER w L β' T' rep' e d
  | ⟨t, a, b, c, d0, d1, d2, f⟩ => ⟨t, a, b, c.mono hp ht, d0, Nat.lt_of_lt_of_le d1 ht, d2, fun z => f (hr z)⟩
theorem dictSet_at {d : Addr} {ents : List DictEntry} {ep : Nat} {k : List Nat} {t : Tok} {x : Value} {Q : Unit → Shared → Prop} (ho : s.heap.get? d = some (dictO ents ep)) (hk : ∀ e ∈ ents, ∃ k, Value.isStrOf k e.key = true ∧ e.hash = hashStr C.w k)
    (hsz : ents.length ≤ LIM)
    (k1 : ∀ H', H'.get? d = some (dictO (putD k t (hashStr C.w ⟨k.toArray⟩) x ents) (if (ents.findIdx? fun e => Value.isStrOf ⟨k.toArray⟩ e.key) = none then ep + 1 else ep)) → Heap.SameBut d s.heap H' → Q () { s with heap := H', toks := s.toks + 1 }) :
    wpAny (model C.prog C.w) A (dictSet d (.str ⟨k.toArray⟩ t) x) Q E s := by
  have hkey : (strKind C.prog C.w).is ⟨k.toArray⟩ (.str ⟨k.toArray⟩ t) = true := beq_self_eq_true _
  have hko : KeysOf (strKind C.prog C.w) ents.toArray := fun e he => hk e (by simpa using he)
  unfold dictSet
  try with_reducible refine wpAny_holding ?_
  refine wpAny_bind ((strKind C.prog C.w).pyHash hkey ?_)
  unfold dictSetHashed
  try with_reducible refine wpAny_holding ?_
  refine wpAny_bind (wpAny_dictFind_of (s := { s with toks := s.toks + 1 }) hkey ho rfl hko ?_)
  have hix : (ents.toArray.findIdx? fun e => (strKind C.prog C.w).is ⟨k.toArray⟩ e.key) = ents.findIdx? fun e => Value.isStrOf ⟨k.toArray⟩ e.key := by simp; rfl
  rw [hix]
  cases hi : ents.findIdx? fun e => Value.isStrOf ⟨k.toArray⟩ e.key with
  | some i =>
    refine wpAny_bind (wpAny_rule (wpAny_bind (wpAny_updateDict (s := { s with toks := s.toks + 1 }) ho rfl (wpAny_point (k1 _ ?_ (Heap.SameBut.update ..))))))
    refine (Heap.get?_update_self _ ho (by rfl)).trans ?_
    rw [hi, if_neg (by simp), ← putD_some hi]
    simp [Obj.mapDict, dictO]
  | none =>
    refine wpAny_bind (wpAny_rule (wpAny_updateDictKeys (hz := by rw [sizeLine_eq]; unfold LIM at hsz; simpa using hsz) (s := { s with toks := s.toks + 1 }) ho rfl (k1 _ ?_ (Heap.SameBut.update ..))))
    refine (Heap.get?_update_self _ ho (by rfl)).trans ?_
    rw [hi, if_pos rfl, ← putD_none hi]
    simp [Obj.mapDictKeys, dictO]
    rfl

end
end Mine

end

section
open PySem PySem.Calls PyProof.Rows PySem.W
namespace Mine
open PySem.Builtin PySem.Builtin.Str

structure Gw (w : Writer) (T : Str) : Prop where
  text : w.text = T
  total : w.total = T.length
  whole : w.whole = none
  ne : w.pieces.isEmpty = false
theorem gw_first {x : Str} (hx : (x.length == 0) = false) : Gw (({} : Writer).add x none) x := by
  have e : ({} : Writer).add x none = { pieces := [x], total := 0 + x.length, whole := none } := by
    unfold Writer.add
    rw [if_neg (by rw [hx]; simp)]
    rfl
  rw [e]
  refine ⟨?_, by simp, rfl, rfl⟩
  show (⟨_⟩ : Str) = x
  exact Str.ext' (by simp)
theorem gw_add {w : Writer} {T x : Str} {o : Option Value} (g : Gw w T) : Gw (w.add x o) (T ++ x) := by
  by_cases hx : (x.length == 0) = true
  · have e : w.add x o = w := by unfold Writer.add; rw [if_pos hx]
    have hz : x.cps = #[] := Array.size_eq_zero_iff.mp (by simpa [PySem.Str.length] using hx)
    have ht : T ++ x = T := Str.ext' (by rw [Str.cps_append, hz, Array.append_empty])
    rw [e, ht]; exact g
  · have e : w.add x o = { pieces := x :: w.pieces, total := w.total + x.length, whole := none } := by
      unfold Writer.add
      rw [if_neg hx, g.ne]; rfl
    rw [e]
    refine ⟨?_, ?_, rfl, rfl⟩
    · have ht := g.text
      unfold Writer.text at ht ⊢
      simp only [List.reverse_cons, List.foldl_append, List.foldl_cons, List.foldl_nil]
      rw [← ht]
      exact Str.ext' (by rw [Str.cps_append])
    · show w.total + x.length = _
      rw [g.total, Str.length_append]
theorem gw_finish {M : Model} {A : Around} {E : Value → Shared → Prop} {s : Shared} {w : Writer} {T : Str} {id : String} {Q : Fin → Shared → Prop} (g : Gw w T) (hN : T.length ≤ 16777216)
    (h : Q (.done (.ret (.str T s.toks))) { s with toks := s.toks + 1 }) : wpAny M A (w.finish id) Q E s := by
  unfold Writer.finish
  rw [g.whole]
  refine wpAny_ite (KPc.ite_no (KPc.short (by rw [g.total]; exact hN)) ?_)
  rw [g.text]
  exact wpAny_bind (wpAny_mkStr (wpAny_pure h) (by rw [sizeLine_eq]; exact hN))

set_option maxRecDepth 100000 in
set_option maxHeartbeats 4000000 in
theorem pct_dq (y : Str) (t u : Tok) (hy : y.length ≤ 10000000) : Meets («str.__mod__» ⟨[.str ⟨#[34, 37, 115, 34]⟩ t, .str y u], []⟩)
    (fun _ R s => R (.ok (.ret (.str (⟨#[34]⟩ ++ y ++ ⟨#[34]⟩) s.toks))) { s with toks := s.toks + 1 }) := by
  refine Meets.of_wp fun prog w A _ s hS => ?_
  rw [KPc.entry_is_s]
  unfold Builtin.Str.percentFormat
  refine wpAny_bind (wpAny_isInstance (typeIs_str _ _ _) F.sub_str_tuple ?_)
  refine wpAny_bind (wpAny_of_eq (a := some _) rfl ?_)
  refine wpAny_bind (KPc.wp_fills_str ?_)
  intro _
  kpc_if
  refine wpAny_bind (wpAny_pure ?_)
  refine wpAny_bind ?_
  rw [KPc.range_list]
  refine KPc.turn ?_
  repeat kpc_if
  refine wpAny_pure ?_
  have g1 : Gw (({} : Writer).add ⟨#[34]⟩ none) ⟨#[34]⟩ := gw_first (by decide)
  refine KPc.turn ?_
  repeat kpc_if
  refine wpAny_bind ?_
  refine wpAny_holding ?_
  repeat kpc_if
  kpc_conv
  refine wpAny_pure ?_
  refine wpAny_pure ?_
  have g2 := gw_add (x := ⟨y.cps.toList.toArray⟩) (o := none) g1
  have hy2 : (⟨y.cps.toList.toArray⟩ : Str).length = y.length := by simp [Str.length]
  refine KPc.turn ?_
  refine wpAny_ite (KPc.ite_no (KPc.short ?_) ?_)
  · refine Nat.le_trans (Nat.le_of_eq g2.total) ?_
    rw [Str.length_append, hy2]
    have : (⟨#[34]⟩ : Str).length = 1 := rfl
    omega
  repeat kpc_if
  refine wpAny_pure ?_
  have g3 := gw_add (x := ⟨#[34]⟩) (o := none) g2
  have hl : (⟨#[34]⟩ ++ ⟨y.cps.toList.toArray⟩ ++ ⟨#[34]⟩ : Str).length ≤ 16777216 := by
    rw [Str.length_append, Str.length_append, hy2]
    have : (⟨#[34]⟩ : Str).length = 1 := rfl
    omega
  have e3 : (⟨y.cps.toList.toArray⟩ : Str) = y := congrArg PySem.Str.mk (Array.toArray_toList ..)
  rw [e3] at g3 hl
  refine KPc.turn ?_
  refine wpAny_ite (KPc.ite_no (KPc.short ?_) ?_)
  · refine Nat.le_trans (Nat.le_of_eq (by exact g3.total)) hl
  repeat kpc_if
  refine wpAny_pure ?_
  kpc_if
  refine gw_finish (by exact g3) hl ⟨_, rfl, hS⟩
set_option maxRecDepth 100000 in
set_option maxHeartbeats 4000000 in
theorem pct_sq (y : Str) (t u : Tok) (hy : y.length ≤ 10000000) : Meets («str.__mod__» ⟨[.str ⟨#[39, 37, 115, 39]⟩ t, .str y u], []⟩)
    (fun _ R s => R (.ok (.ret (.str (⟨#[39]⟩ ++ y ++ ⟨#[39]⟩) s.toks))) { s with toks := s.toks + 1 }) := by
  refine Meets.of_wp fun prog w A _ s hS => ?_
  rw [KPc.entry_is_s]
  unfold Builtin.Str.percentFormat
  refine wpAny_bind (wpAny_isInstance (typeIs_str _ _ _) F.sub_str_tuple ?_)
  refine wpAny_bind (wpAny_of_eq (a := some _) rfl ?_)
  refine wpAny_bind (KPc.wp_fills_str ?_)
  intro _
  kpc_if
  refine wpAny_bind (wpAny_pure ?_)
  refine wpAny_bind ?_
  rw [KPc.range_list]
  refine KPc.turn ?_
  repeat kpc_if
  refine wpAny_pure ?_
  have g1 : Gw (({} : Writer).add ⟨#[39]⟩ none) ⟨#[39]⟩ := gw_first (by decide)
  refine KPc.turn ?_
  repeat kpc_if
  refine wpAny_bind ?_
  refine wpAny_holding ?_
  repeat kpc_if
  kpc_conv
  refine wpAny_pure ?_
  refine wpAny_pure ?_
  have g2 := gw_add (x := ⟨y.cps.toList.toArray⟩) (o := none) g1
  have hy2 : (⟨y.cps.toList.toArray⟩ : Str).length = y.length := by simp [Str.length]
  refine KPc.turn ?_
  refine wpAny_ite (KPc.ite_no (KPc.short ?_) ?_)
  · refine Nat.le_trans (Nat.le_of_eq g2.total) ?_
    rw [Str.length_append, hy2]
    have : (⟨#[39]⟩ : Str).length = 1 := rfl
    omega
  repeat kpc_if
  refine wpAny_pure ?_
  have g3 := gw_add (x := ⟨#[39]⟩) (o := none) g2
  have hl : (⟨#[39]⟩ ++ ⟨y.cps.toList.toArray⟩ ++ ⟨#[39]⟩ : Str).length ≤ 16777216 := by
    rw [Str.length_append, Str.length_append, hy2]
    have : (⟨#[39]⟩ : Str).length = 1 := rfl
    omega
  have e3 : (⟨y.cps.toList.toArray⟩ : Str) = y := congrArg PySem.Str.mk (Array.toArray_toList ..)
  rw [e3] at g3 hl
  refine KPc.turn ?_
  refine wpAny_ite (KPc.ite_no (KPc.short ?_) ?_)
  · refine Nat.le_trans (Nat.le_of_eq (by exact g3.total)) hl
  repeat kpc_if
  refine wpAny_pure ?_
  kpc_if
  refine gw_finish (by exact g3) hl ⟨_, rfl, hS⟩

section
variable {C : Cx} {A : Around} {h : Hp} {v : V} {s : Shared} {β : List Addr} {Q : Value → Shared → Prop} {E : Value → Shared → Prop}
theorem pct_sound {f x : List Nat} {t u : Tok} (G : Gd C.w C.L C.G β s.toks h s.heap) (e : binop .Mod (.str f) (.str x) = some v) (pst : Pst C s β h v Q) :
    wpAny (model C.prog C.w) A (binaryOp .Mod (.str ⟨f.toArray⟩ t) (.str ⟨x.toArray⟩ u)) Q E s := by
  simp only [binop, binS] at e
  split at e
  · rename_i hl
    have hl' : (⟨x.toArray⟩ : Str).length ≤ 10000000 := by simpa [Str.length] using hl
    split at e
    · rename_i hf
      cases e
      have hf' : f = [34, 37, 115, 34] := hf.trans (by decide +kernel)
      subst hf'
      refine binaryOp_meets (T := "str") (op := .Mod) (typeIs_str s _ t) (typeIs_str s _ u) F.fills_str_mod F.slot_str_mod F.entry_str_mod (F.args_str_mod_2 _ _) (pct_dq _ t u hl') ?_
      refine ⟨(fun e => nomatch e), pst.same G (Nat.le_succ _) ⟨_, ?_, G.pos, Nat.lt_succ_self _, by simp; unfold LIM; omega⟩⟩
      congr 1
      exact Str.ext' (by rw [Str.cps_append, Str.cps_append]; simp)
    · split at e
      · rename_i hf
        cases e
        have hf' : f = [39, 37, 115, 39] := hf.trans (by decide +kernel)
        subst hf'
        refine binaryOp_meets (T := "str") (op := .Mod) (typeIs_str s _ t) (typeIs_str s _ u) F.fills_str_mod F.slot_str_mod F.entry_str_mod (F.args_str_mod_2 _ _) (pct_sq _ t u hl') ?_
        refine ⟨(fun e => nomatch e), pst.same G (Nat.le_succ _) ⟨_, ?_, G.pos, Nat.lt_succ_self _, by simp; unfold LIM; omega⟩⟩
        congr 1
        exact Str.ext' (by rw [Str.cps_append, Str.cps_append]; simp)
      · cases e
  · cases e
end
end Mine

end

section
open PySem PySem.Calls PyProof.Rows PySem.W
namespace Mine
section
variable {C : Cx} {N : Nm} {sc : Scope} {env : Env} {A₀ : Pf} {A : Around} {d : Nat} {m : M} {h h' : Hp} {v : V} {s : Shared} {β : List Addr} {Q : Value → Shared → Prop} {E : Value → Shared → Prop} {S : Sm}

theorem with_toks {α : Type} {M : Model} {A : Around} {t : Sem α} {Q : α → Shared → Prop} {E : Value → Shared → Prop} (h : wpAny M A t (fun x s' => s.toks ≤ s'.toks → Q x s') E s) : wpAny M A t Q E s :=
  wpAny_mono (wpAny_toks_of (Nat.le_refl _) h) (fun a s' h => h.2 h.1) (fun e s' h => h.2)

theorem rep_sound (ok0 : C.Ok) {l y z : List Nat} {x : Value} {u v' : Tok} (G : Gd C.w C.L C.G β s.toks h s.heap) (rx : VR C.L β s.toks (.str l) x) (hu : 0 < u) (hv : 0 < v') (huv : u ≠ v') (hy : y ≠ [])
    (hl : l.length + (l.length + 1) * z.length ≤ LIM) (pst : Pst C s β h (.str (replace y z l)) Q) :
    wpAny (model C.prog C.w) A (call (.builtin "str.replace") [x, .str ⟨y.toArray⟩ u, .str ⟨z.toArray⟩ v']) Q E s := by
  obtain ⟨t, rfl, t0, t1, tl⟩ := rx
  have hb : NoneBooked s.heap := by
    obtain ⟨mc, h1, h2⟩ := ok0.booked
    exact ⟨mc, h1.keeps G.base, h2⟩
  have hxl : (⟨l.toArray⟩ : Str).length = l.length := by simp [Str.length]
  have hzl : (⟨z.toArray⟩ : Str).length = z.length := by simp [Str.length]
  have hll : Builtin.Str.tooLong ((⟨l.toArray⟩ : Str).length + (Builtin.Str.occurrences ⟨l.toArray⟩ ⟨y.toArray⟩ 0 (⟨l.toArray⟩ : Str).length ((⟨l.toArray⟩ : Str).length + 1)).length * (⟨z.toArray⟩ : Str).length) = false := by
    have h1 := StrLaws.occ_length_le ⟨l.toArray⟩ ⟨y.toArray⟩ 0 (⟨l.toArray⟩ : Str).length ((⟨l.toArray⟩ : Str).length + 1)
    have h2 := Nat.mul_le_mul_right (⟨z.toArray⟩ : Str).length h1
    unfold Builtin.Str.tooLong sizeLine
    unfold LIM at hl
    rw [hzl, hxl] at *
    exact decide_eq_false (by omega)
  have hrl : (replace y z l).length ≤ LIM := by
    have := replace_len (z := z) (l := l) hy
    rw [Nat.succ_mul] at hl
    omega
  refine call_givesAt F.slot_str_replace (typeIs_str _ _ _) F.entry_str_replace (F.args_str_replace_3 _ _ _) (gives_str_replace2 ⟨l.toArray⟩ ⟨y.toArray⟩ ⟨z.toArray⟩ t u v' fun _ => ⟨by simp; exact ⟨Nat.ne_of_gt hu, Nat.ne_of_gt hv⟩, by simp [huv], hll⟩) hb ?_
  have key := replace_is (l := l) (z := z) hy
  unfold Txt.replace at key
  cases hc : ((Builtin.Str.occurrences ⟨l.toArray⟩ ⟨y.toArray⟩ 0 (⟨l.toArray⟩ : Str).length ((⟨l.toArray⟩ : Str).length + 1)).isEmpty || ((⟨y.toArray⟩ : Str).length == 0 && (⟨z.toArray⟩ : Str).length == 0))
  · rw [hc] at key
    simp only [Bool.false_eq_true, if_false] at key ⊢
    have fresh : (Made.str (Builtin.Str.glued ⟨z.toArray⟩ (Builtin.Str.partsBetween ⟨l.toArray⟩ (Builtin.Str.occurrences ⟨l.toArray⟩ ⟨y.toArray⟩ 0 (⟨l.toArray⟩ : Str).length ((⟨l.toArray⟩ : Str).length + 1)) (⟨y.toArray⟩ : Str).length))).post Q s := by
      rw [key]
      refine ⟨by rw [sizeLine_eq]; simp [Str.length]; exact hrl, pst.same G (Nat.le_succ _) ⟨_, rfl, G.pos, Nat.lt_succ_self _, hrl⟩⟩
    cases hyz : ((⟨y.toArray⟩ : Str) == ⟨z.toArray⟩)
    · simp only [Bool.false_eq_true, if_false]
      exact fresh
    · simp only [if_true]
      refine ⟨?_, fresh⟩
      have e : (⟨y.toArray⟩ : Str) = ⟨z.toArray⟩ := eq_of_beq hyz
      have key2 := replace_is (l := l) (z := z) hy
      rw [← e, Txt.replace_self] at key2
      exact pst.here G ⟨t, by rw [key2], t0, t1, hrl⟩
  · rw [hc] at key
    simp only [if_true] at key ⊢
    exact pst.here G ⟨t, by rw [key], t0, t1, hrl⟩

theorem star_plain : ∀ as : MEs, starEach (as.back N) env = (as.back N).map fun e => (false, eval e env)
  | .nil => rfl
  | .cons e r => by
    have : starEach (e.back N :: r.back N) env = (false, eval (e.back N) env) :: starEach (r.back N) env := by
      cases e <;> (try rfl)
      rename_i sp ks vs p
      cases sp <;> rfl
    show starEach (e.back N :: r.back N) env = _
    rw [this, star_plain r]; rfl
theorem back_plain (pos : Pos) (l : List Expr) : backTo pos (l.map fun e => (false, eval e env)) = l.map fun e => (false, eval e env) := by
  simp [backTo]
theorem trees (pos : Pos) (as : MEs) : backTo pos (starEach (as.back N) env) = (as.back N).map fun e => (false, eval e env) := by rw [star_plain, back_plain]

noncomputable def PstL (C : Cx) (s : Shared) (β : List Addr) (h' : Hp) (vs : List V) (Q : List Value → Shared → Prop) : Prop :=
  ∀ xs β' H' T', s.toks ≤ T' → Ext β s.heap β' H' → Gd C.w C.L C.G β' T' h' H' → All2 (VR C.L β' T') vs xs → Q xs { s with heap := H', toks := T' }

theorem args_sound (ih : SEv C S d) (V₀ : EnvOk C N sc env A₀) (hA : AOk A d) : ∀ (as : MEs) (h h' : Hp) (vs : List V), as.ok N sc = true → evs S as m h = some (vs, h') → ∀ (s : Shared) (β : List Addr) (Q : List Value → Shared → Prop) (E : Value → Shared → Prop), Gd C.w C.L C.G β s.toks h s.heap → Frm C.L C.G N β s.toks m A₀ s.heap →
    PstL C s β h' vs Q → wpAny (model C.prog C.w) A (spliced ((as.back N).map fun e => (false, eval e env))) Q E s
  | .nil, h, h', vs, _, e, s, β, Q, E, G, F, pst => by
    cases e
    exact spliced_nil (pst [] β s.heap s.toks (Nat.le_refl _) (Ext.refl _ _) G trivial)
  | .cons x r, h, h', vs, ok, e, s, β, Q, E, G, F, pst => by
    obtain ⟨⟨v, h1⟩, e1, e2⟩ := bind_some e
    obtain ⟨⟨vs', h2⟩, e3, e4⟩ := bind_some e2
    cases e4
    have ok' := Bool.and_eq_true_iff.mp ok
    refine spliced_cons (ih x N sc env A₀ A m h h1 v ok'.1 V₀ hA e1 s β _ E G F fun y β1 H1 T1 t1 x1 g1 r1 => ?_)
    refine args_sound ih V₀ hA r h1 h' vs' ok'.2 e3 { s with heap := H1, toks := T1 } β1 _ E g1 (F.ext x1 t1) fun ys β2 H2 T2 t2 x2 g2 r2 => ?_
    exact pst (y :: ys) β2 H2 T2 (Nat.le_trans t1 t2) (x1.trans x2) g2 ⟨r1.mono x2.pre t2, r2⟩

theorem withB {id : String} {first : List Value} {pos : Pos} {as : MEs} (hp : wpAny (model C.prog C.w) A (spliced ((as.back N).map fun e => (false, eval e env))) (fun xs s' => wpAny (model C.prog C.w) A (call (.builtin id) (first ++ xs)) Q E s') E s) :
    wpAny (model C.prog C.w) A (callWith pos (.builtin id) first (backTo pos (starEach (as.back N) env)) []) Q E s := by
  rw [trees]
  refine callWith_builtin (by simp) ?_
  cases as with
  | nil =>
    refine PySem.evalArgs_none ?_
    have := hp
    simp only [MEs.back, List.map_nil] at this
    exact fun Γ p hΓ => (this Γ p hΓ) Γ p hΓ
  | cons x r => exact evalArgs_plain hp
end
end Mine

end

section
open PySem PySem.Calls PyProof.Rows PySem.W
namespace Mine

/-- written pairs as they are evaluated, one behind the other -/
noncomputable def CRs (L : Pl) (T T' : Nat) : List (List Nat × V) → List (Value × Value) → Prop
  | [], [] => T ≤ T'
  | p :: es, kv :: r => ∃ t T2, kv.1 = .str ⟨p.1.toArray⟩ t ∧ T ≤ t ∧ t < T2 ∧ VR L [] T2 p.2 kv.2 ∧ (∀ y u, kv.2 = .str y u → u ≠ t) ∧ 0 < t ∧ p.1.length ≤ LIM ∧ CRs L T2 T' es r
  | _, _ => False
theorem CRs.le {L : Pl} : ∀ {es : List (List Nat × V)} {r : List (Value × Value)} {T T' : Nat}, CRs L T T' es r → T ≤ T'
  | [], [], _, _, h => h
  | _ :: _, _ :: _, _, _, ⟨t, T2, _, h1, h2, _, _, _, _, h3⟩ => by
    have := CRs.le h3
    exact Nat.le_trans (Nat.le_of_lt (Nat.lt_of_le_of_lt h1 h2)) this
  | [], _ :: _, _, _, h => h.elim
  | _ :: _, [], _, _, h => h.elim
theorem CRs.len {L : Pl} : ∀ {es : List (List Nat × V)} {r : List (Value × Value)} {T T' : Nat}, CRs L T T' es r → es.length = r.length
  | [], [], _, _, h => rfl
  | _ :: _, _ :: _, _, _, ⟨t, T2, _, h1, h2, _, _, _, _, h3⟩ => by rw [List.length_cons, List.length_cons, CRs.len h3]
  | [], _ :: _, _, _, h => h.elim
  | _ :: _, [], _, _, h => h.elim

/-- the trees of written pairs -/
noncomputable def pairTrees (N : Nm) (env : Env) (pos : Pos) : MEs → MEs → List (Sem Value × Sem Value)
  | .cons k ks, .cons v vs => (eval (k.back N) env, do let x ← eval (v.back N) env; standAt pos; pure x) :: pairTrees N env pos ks vs
  | _, _ => []
theorem cstOf_inv {e : ME} {c : C0} (h : e.cstOf = some c) : ∃ p, e = .cst c p := by
  cases e <;> first | (cases h; exact ⟨_, rfl⟩) | (exfalso; cases h)
theorem strOf_inv {e : ME} {s : String} (h : e.strOf = some s) : ∃ p, e = .cst (.str s) p := by
  obtain ⟨c, h1, h2⟩ := bind_some h
  obtain ⟨p, rfl⟩ := cstOf_inv h1
  cases c <;> first | (cases h2; exact ⟨_, rfl⟩) | (exfalso; cases h2)
theorem two_inv {as r : MEs} {a : ME} (h : as.two = some (a, r)) : as = .cons a r := by
  cases as with
  | nil => cases h
  | cons b t => cases h; rfl
theorem two_nil {as : MEs} (h : as.two = none) : as = .nil := by
  cases as with
  | nil => rfl
  | cons b t => cases h
theorem pairs_inv {ks vs : MEs} {es : List (List Nat × V)} (e : pairs ks vs = some es) : (ks = .nil ∧ vs = .nil ∧ es = []) ∨ ∃ k p c q ks' vs' r, ks = .cons (.cst (.str k) p) ks' ∧ vs = .cons (.cst c q) vs' ∧ pairs ks' vs' = some r ∧ es = (lit k, c.val) :: r := by
  cases ks with
  | nil =>
    cases h : vs.two with
    | none =>
      rw [pairs, h] at e
      cases e
      exact .inl ⟨rfl, two_nil h, rfl⟩
    | some q => rw [pairs, h] at e; cases e
  | cons k ks =>
    rw [pairs] at e
    obtain ⟨⟨v, vs'⟩, h1, e⟩ := bind_some e
    obtain ⟨s, h2, e⟩ := bind_some e
    obtain ⟨c, h3, e⟩ := bind_some e
    obtain ⟨r, h4, rfl⟩ := map_some e
    obtain ⟨p, rfl⟩ := strOf_inv h2
    obtain ⟨q, rfl⟩ := cstOf_inv h3
    exact .inr ⟨s, p, c, q, ks, vs', r, rfl, two_inv h1, h4, rfl⟩
theorem pairTrees_zip {N : Nm} {env : Env} {pos : Pos} : ∀ {es : List (List Nat × V)} {ks vs : MEs}, pairs ks vs = some es →
    (evalEachOpt (ks.backSome N) env).zip ((evalEach (vs.back N) env).map fun v => do let x ← v; standAt pos; pure x) = (pairTrees N env pos ks vs).map fun p => (some p.1, p.2)
  | [], ks, vs, e => by
    rcases pairs_inv e with ⟨rfl, rfl, _⟩ | ⟨_, _, _, _, _, _, _, _, _, _, h⟩
    · rfl
    · cases h
  | a :: es, ks, vs, e => by
    rcases pairs_inv e with ⟨_, _, h⟩ | ⟨k, p, c, q, ks', vs', r, rfl, rfl, h1, h2⟩
    · cases h
    · cases h2
      have := pairTrees_zip (N := N) (env := env) (pos := pos) h1
      show (_ :: evalEachOpt (ks'.backSome N) env).zip (_ :: (evalEach (vs'.back N) env).map _) = _
      rw [List.zip_cons_cons, this]; rfl
theorem pairTrees_len {N : Nm} {env : Env} {pos : Pos} : ∀ {ks vs : MEs}, (pairTrees N env pos ks vs).length ≤ ks.len
  | .nil, .nil => Nat.le_refl _
  | .nil, .cons _ _ => Nat.le_refl _
  | .cons _ _, .nil => Nat.zero_le _
  | .cons _ ks, .cons _ vs => by
    show (pairTrees N env pos ks vs).length + 1 ≤ ks.len + 1
    exact Nat.succ_le_succ pairTrees_len
theorem pairs_len : ∀ {es : List (List Nat × V)} {ks vs : MEs}, pairs ks vs = some es → es.length = ks.len ∧ es.map (·.1) = ks.keys
  | [], ks, vs, e => by
    rcases pairs_inv e with ⟨rfl, rfl, _⟩ | ⟨_, _, _, _, _, _, _, _, _, _, h⟩
    · exact ⟨rfl, rfl⟩
    · cases h
  | a :: es, ks, vs, e => by
    rcases pairs_inv e with ⟨_, _, h⟩ | ⟨k, p, c, q, ks', vs', r, rfl, rfl, h1, h2⟩
    · cases h
    · cases h2
      obtain ⟨a, b⟩ := pairs_len h1
      exact ⟨by rw [List.length_cons, a]; rfl, by rw [List.map_cons, b]; rfl⟩

section
variable {C : Cx} {N : Nm} {sc : Scope} {env : Env} {A₀ : Pf} {A : Around} {d : Nat} {m : M} {h h' : Hp} {v : V} {s : Shared} {β : List Addr} {E : Value → Shared → Prop} {S : Sm}

/-- written texts are short -/
noncomputable def short (es : MEs) : Prop := es.short = true
theorem short.tail {c : C0} {q : Pos} {r : MEs} (h : short (.cons (.cst c q) r)) : short r := (Bool.and_eq_true_iff.mp h).2
theorem short.str {k : String} {q : Pos} {r : MEs} (h : short (.cons (.cst (.str k) q) r)) : (lit k).length ≤ LIM :=
  Nat.le_trans (of_decide_eq_true (Bool.and_eq_true_iff.mp h).1) (by decide)
theorem cst_pair {c : C0} {q pos : Pos} {Q : Value → Shared → Prop} (hl : ∀ x, c = .str x → (lit x).length ≤ LIM) (h0 : 0 < s.toks)
    (k : ∀ x T, s.toks ≤ T → VR C.L [] T c.val x → (∀ y u, x = .str y u → s.toks ≤ u) → Q x { s with toks := T }) :
    wpAny (model C.prog C.w) A (do let x ← eval ((ME.cst c q).back N) env; standAt pos; pure x) Q E s := by
  have fin : ∀ {Q : Value → Shared → Prop}, (∀ x T, s.toks ≤ T → VR C.L [] T c.val x → (∀ y u, x = .str y u → s.toks ≤ u) → Q x { s with toks := T }) → GE C N env A Q E s (ME.cst c q) := by
    intro Q k
    cases c with
    | none => exact fun _ _ _ => k .none s.toks (Nat.le_refl _) rfl (fun _ _ e => nomatch e)
    | bool b => exact fun _ _ _ => k (.bool b) s.toks (Nat.le_refl _) rfl (fun _ _ e => nomatch e)
    | int i => exact wpAny_Constant_int (k _ _ (Nat.le_succ _) ⟨_, rfl⟩ (fun _ _ e => nomatch e))
    | str x => exact Constant_str (k _ _ (Nat.le_succ _) (vr_lit x h0 (Nat.lt_succ_self _) (hl x rfl)) (fun y u e => by cases e; exact Nat.le_refl _))
  exact wpAny_bind (fin fun x T a b c => wpAny_bind (wpAny_standAt (wpAny_pure (k x T a b c))))

theorem evalPairs_sound {pos : Pos} : ∀ {es : List (List Nat × V)} {ks vs : MEs}, pairs ks vs = some es → short ks → short vs → ∀ (s : Shared) (Q : List (Value × Value) → Shared → Prop), 0 < s.toks →
    (∀ kvs T, CRs C.L s.toks T es kvs → Q kvs { s with toks := T }) → wpAny (model C.prog C.w) A (evalPairs (pairTrees N env pos ks vs)) Q E s
  | [], ks, vs, e, _, _, s, Q, h0, k => by
    rcases pairs_inv e with ⟨rfl, rfl, _⟩ | ⟨_, _, _, _, _, _, _, _, _, _, h⟩
    · exact evalPairs_nil (k [] s.toks (Nat.le_refl _))
    · cases h
  | a :: es, ks, vs, e, hs1, hs2, s, Q, h0, k => by
    rcases pairs_inv e with ⟨_, _, h⟩ | ⟨key, p, c, q, ks', vs', r, rfl, rfl, h1, h2⟩
    · cases h
    · cases h2
      refine evalPairs_cons (Constant_str ?_)
      refine cst_pair (s := { s with toks := s.toks + 1 }) (fun x hx => by subst hx; exact hs2.str) (Nat.succ_pos _) fun x T a b c' => ?_
      refine evalPairs_sound h1 hs1.tail hs2.tail { s with toks := T } _ (Nat.lt_of_lt_of_le (Nat.succ_pos _) a) fun kvs T' hc => ?_
      refine k _ T' ⟨s.toks, T, rfl, Nat.le_refl _, a, b, fun y u e => ?_, h0, hs1.str, hc⟩
      have := c' y u e
      exact Nat.ne_of_gt this

theorem nokey_idx {w : World} {L : Pl} {T : Nat} {rep : Bool} {k : List Nat} {es : List (List Nat × V)} {ents : List DictEntry} (al : All2 (ER w L β T rep) es ents) (hn : k ∉ es.map (·.1)) : (ents.findIdx? fun e => Value.isStrOf ⟨k.toArray⟩ e.key) = none := by
  rw [find_idx k al, List.findIdx?_eq_none_iff]
  intro e he
  refine beq_eq_false_iff_ne.mpr fun q => hn (q ▸ List.mem_map_of_mem he)
theorem putD_new {k : List Nat} {t : Tok} {hash : Int} {x : Value} {ents : List DictEntry} (hn : (ents.findIdx? fun e => Value.isStrOf ⟨k.toArray⟩ e.key) = none) : putD k t hash x ents = ents ++ [⟨hash, .str ⟨k.toArray⟩ t, x⟩] := (putD_none hn).symm

theorem store_all {dd : Addr} : ∀ (es : List (List Nat × V)) (kvs : List (Value × Value)) (acc : List (List Nat × V)) (ents : List DictEntry) (ep T T' : Nat) (s : Shared) (Q : PUnit → Shared → Prop), CRs C.L T T' es kvs → All2 (ER C.w C.L [] T true) acc ents →
    ((acc ++ es).map (·.1)).Nodup → acc.length + es.length ≤ LIM → s.heap.get? dd = some (dictO ents ep) →
    (∀ H' ents', H'.get? dd = some (dictO ents' (ep + es.length)) → All2 (ER C.w C.L [] T' true) (acc ++ es) ents' → Heap.SameBut dd s.heap H' → Q ⟨⟩ { s with heap := H', toks := s.toks + kvs.length }) →
    wpAny (model C.prog C.w) A (forIn kvs PUnit.unit fun (x : Value × Value) (_ : PUnit) => (do dictSet dd x.1 x.2; pure (ForInStep.yield PUnit.unit) : Sem (ForInStep PUnit))) Q E s
  | [], [], acc, ents, ep, T, T', s, Q, hc, al, nd, sz, ho, k => by
    rw [List.forIn_nil]
    exact wpAny_pure (k s.heap ents (by simpa using ho) (by simpa using al.mono fun _ _ => ER.mono (Pre.refl _) hc) (Heap.SameBut.refl _ _))
  | p :: es, kv :: kvs, acc, ents, ep, T, T', s, Q, hc, al, nd, sz, ho, k => by
    obtain ⟨t, T2, e1, h1, h2, h3, h4, h5, h6, h7⟩ := hc
    obtain ⟨kk, vv⟩ := kv
    cases e1
    have hnk : p.1 ∉ acc.map (·.1) := by
      rw [List.map_append, List.nodup_append] at nd
      exact fun hm => nd.2.2 _ hm p.1 (by simp) rfl
    have hno := nokey_idx al hnk
    rw [List.length_cons] at sz
    rw [List.forIn_cons]
    refine wpAny_bind (wpAny_bind (dictSet_at ho (fun e he => keys_dict al e he) (by rw [← al.length]; omega) fun H1 g1 s1 => wpAny_pure ?_))
    rw [hno, if_pos rfl, putD_new hno] at g1
    have al2 : All2 (ER C.w C.L [] T2 true) (acc ++ [p]) (ents ++ [⟨hashStr C.w ⟨p.1.toArray⟩, .str ⟨p.1.toArray⟩ t, vv⟩]) :=
      All2.append (al.mono fun _ _ => ER.mono (Pre.refl _) (Nat.le_of_lt (Nat.lt_of_le_of_lt h1 h2))) ⟨⟨t, rfl, rfl, h3, h5, h2, h6, fun _ y u e => h4 y u e⟩, trivial⟩
    refine store_all es kvs (acc ++ [p]) _ (ep + 1) T2 T' _ Q h7 al2 (by simpa using nd) (by simp; omega) g1 fun H' ents' a b c => ?_
    have := k H' ents' (by simpa [Nat.add_assoc, Nat.add_comm 1] using a) (by simpa using b) (s1.trans c)
    simpa [Nat.add_assoc, Nat.add_comm 1] using this
  | [], _ :: _, _, _, _, _, _, _, _, hc, _, _, _, _, _ => hc.elim
  | _ :: _, [], _, _, _, _, _, _, _, hc, _, _, _, _, _ => hc.elim

theorem subDict_sound {pos : Pos} {ks vs : MEs} {es : List (List Nat × V)} {Q : Addr → Shared → Prop} (e : pairs ks vs = some es) (h1 : short ks) (h2 : short vs) (hl : ks.len ≤ 15) (nd : ks.keys.Nodup) (h0 : 0 < s.toks)
    (k : ∀ H' ents T, s.toks ≤ T → H'.get? s.heap.objs.size = some (dictO ents es.length) → All2 (ER C.w C.L [] T true) es ents → (∀ b o, s.heap.get? b = some o → H'.get? b = some o) → Q s.heap.objs.size { s with heap := H', toks := T }) :
    wpAny (model C.prog C.w) A (subDict (pairTrees N env pos ks vs)) Q E s := by
  obtain ⟨el, ek⟩ := pairs_len e
  unfold subDict
  refine wpAny_bind (wpAny_alloc ?_)
  refine wpAny_bind (wpAny_holding ?_)
  rw [if_pos (Nat.le_trans pairTrees_len hl)]
  refine wpAny_bind (evalPairs_sound e h1 h2 { s with heap := s.heap.push { cls := .type "dict", data := .dict #[] } } _ h0 fun kvs T hc => ?_)
  refine wpAny_holding ?_
  have hT := hc.le
  refine wpAny_bind (store_all (dd := s.heap.objs.size) es kvs [] [] 0 s.toks T _ _ hc trivial (by simpa [ek] using nd) (by simp; unfold LIM; omega) (Heap.get?_push_size _ rfl) fun H' ents' a b c => wpAny_pure (wpAny_pure ?_))
  have c1 : ∀ b o, s.heap.get? b = some o → H'.get? b = some o := fun b o q => (c.2 b (Nat.ne_of_lt (Heap.lt_size q))).trans (Heap.get?_push_of_some _ q)
  refine k H' ents' (T + kvs.length) (Nat.le_trans hT (Nat.le_add_right _ _)) (by simpa using a) (by simpa using b.mono fun _ _ => ER.mono (Pre.refl _) (Nat.le_add_right _ _)) c1

theorem dictPut_new {dd : Addr} {ents : List DictEntry} {ep : Nat} {e : DictEntry} {k : List Nat} {t : Tok} {Q : Unit → Shared → Prop} (hd : s.heap.get? dd = some (dictO ents ep)) (hk : ∀ e ∈ ents, ∃ k, Value.isStrOf k e.key = true ∧ e.hash = hashStr C.w k)
    (e1 : e.key = .str ⟨k.toArray⟩ t) (e2 : e.hash = hashStr C.w ⟨k.toArray⟩) (hn : (ents.findIdx? fun e => Value.isStrOf ⟨k.toArray⟩ e.key) = none) (sz : ents.length ≤ LIM)
    (k1 : ∀ H', H'.get? dd = some (dictO (ents ++ [e]) (ep + 1)) → Heap.SameBut dd s.heap H' → Q () { s with heap := H' }) :
    wpAny (model C.prog C.w) A (dictPut dd e.hash e.key e.val) Q E s := by
  have hko : KeysOf (strKind C.prog C.w) ents.toArray := fun e he => hk e (by simpa using he)
  obtain ⟨hash, key, val⟩ := e
  cases e1
  cases e2
  unfold dictPut
  refine wpAny_bind (wpAny_dictFind_of (knd := strKind C.prog C.w) (k := ⟨k.toArray⟩) (by exact beq_self_eq_true _) hd rfl hko ?_)
  have hix : (ents.toArray.findIdx? fun e => (strKind C.prog C.w).is ⟨k.toArray⟩ e.key) = none := by
    have : (ents.toArray.findIdx? fun e => (strKind C.prog C.w).is ⟨k.toArray⟩ e.key) = ents.findIdx? fun e => Value.isStrOf ⟨k.toArray⟩ e.key := by simp; rfl
    rw [this, hn]
  rw [hix]
  refine wpAny_updateDictKeys (hz := by rw [sizeLine_eq]; unfold LIM at sz; simpa using sz) hd rfl (k1 _ ?_ (Heap.SameBut.update ..))
  refine (Heap.get?_update_self _ hd (by rfl)).trans ?_
  simp [Obj.mapDictKeys, dictO]

theorem merge_loop {dd a : Addr} {more : List (List Nat × V)} {src : List DictEntry} {ep2 T : Nat} {rep rep2 : Bool} (hne : a ≠ dd) (al2 : All2 (ER C.w C.L β T rep2) more src)
    (f : Nat → PUnit → Sem (ForInStep PUnit)) (hf : ∀ i u, f i u = (do
      match (← dictEntries a)[i]? with
      | some e => do
        holding [e.key, e.val] (dictPut dd e.hash e.key e.val)
        if ((← dictEpoch a) != ep2) = true then do
          unsupported "dict.changed-during-merge"
          pure (ForInStep.yield PUnit.unit)
        else pure (ForInStep.yield PUnit.unit)
      | _ => do
        unsupported "dict.changed-during-merge"
        pure (ForInStep.yield PUnit.unit))) :
    ∀ (n j : Nat) (acc : List (List Nat × V)) (ents : List DictEntry) (ep : Nat) (s : Shared) (Q : PUnit → Shared → Prop), j + n = src.length → s.heap.get? dd = some (dictO ents ep) → s.heap.get? a = some (dictO src ep2) →
      All2 (ER C.w C.L β T rep) acc ents → ((acc ++ more.drop j).map (·.1)).Nodup → acc.length + n ≤ LIM →
      (∀ H', H'.get? dd = some (dictO (ents ++ src.drop j) (ep + n)) → Heap.SameBut dd s.heap H' → Q ⟨⟩ { s with heap := H' }) →
      wpAny (model C.prog C.w) A (forIn (List.range' j n) PUnit.unit f) Q E s
  | 0, j, acc, ents, ep, s, Q, hj, hd, ha, al, nd, sz, k => by
    rw [List.range'_zero, List.forIn_nil]
    have : src.drop j = [] := List.drop_eq_nil_of_le (by omega)
    rw [this, List.append_nil] at k
    exact wpAny_pure (k s.heap hd (Heap.SameBut.refl _ _))
  | n + 1, j, acc, ents, ep, s, Q, hj, hd, ha, al, nd, sz, k => by
    have hjl : j < src.length := by omega
    have hml : j < more.length := by rw [al2.length]; exact hjl
    obtain ⟨d, hd2, her⟩ := al2.get (List.getElem?_eq_getElem hml)
    have hsd : src.drop j = d :: src.drop (j + 1) := by
      rw [List.drop_eq_getElem_cons hjl]
      rw [List.getElem?_eq_getElem hjl] at hd2
      cases hd2; rfl
    have hmd : more.drop j = more[j] :: more.drop (j + 1) := List.drop_eq_getElem_cons hml
    obtain ⟨t, e1, e2, e3, e4, e5, e6, e7⟩ := her
    have hnk : more[j].1 ∉ acc.map (·.1) := by
      rw [hmd, List.map_append, List.nodup_append] at nd
      exact fun hm => nd.2.2 _ hm more[j].1 (by rw [List.map_cons]; exact .head _) rfl
    have hno := nokey_idx al hnk
    rw [List.range'_succ, List.forIn_cons, hf]
    refine wpAny_bind (wpAny_bind (wpAny_dictEntries ha rfl ?_))
    have : (src.toArray)[j]? = some d := by simpa using hd2
    rw [this]
    refine wpAny_bind (wpAny_holding (dictPut_new hd (fun e he => keys_dict al e he) e1 e2 hno (by rw [← al.length]; omega) fun H1 g1 s1 => ?_))
    have ha1 : H1.get? a = some (dictO src ep2) := (s1.2 a hne).trans ha
    refine wpAny_bind (wpAny_dictEpoch (s := { s with heap := H1 }) ha1 rfl ?_)
    rw [if_neg (by simp)]
    refine wpAny_pure ?_
    have al3 : All2 (ER C.w C.L β T (rep && rep2)) (acc ++ [more[j]]) (ents ++ [d]) :=
      All2.append (al.mono fun _ _ => ER_weak (Pre.refl _) (Nat.le_refl _) (by simp; exact fun a _ => a)) ⟨ER_weak (Pre.refl _) (Nat.le_refl _) (by simp) ⟨t, e1, e2, e3, e4, e5, e6, e7⟩, trivial⟩
    refine merge_loop (rep := rep && rep2) hne al2 f hf n (j + 1) (acc ++ [more[j]]) (ents ++ [d]) (ep + 1) _ Q (by omega) g1 ha1 al3 (by rw [hmd] at nd; simpa using nd) (by simp; omega) fun H' a b => ?_
    exact k H' (by rw [hsd]; simpa [Nat.add_assoc, Nat.add_comm 1] using a) (s1.trans b)

theorem merge_new {dd a : Addr} {acc more : List (List Nat × V)} {ents src : List DictEntry} {ep ep2 T : Nat} {rep rep2 : Bool} {Q : Unit → Shared → Prop} (hne : a ≠ dd) (lo : (a == sysModules) = false)
    (hd : s.heap.get? dd = some (dictO ents ep)) (ha : s.heap.get? a = some (dictO src ep2)) (al : All2 (ER C.w C.L β T rep) acc ents) (al2 : All2 (ER C.w C.L β T rep2) more src) (nd : ((acc ++ more).map (·.1)).Nodup) (sz : acc.length + more.length ≤ LIM)
    (k : ∀ H', H'.get? dd = some (dictO (ents ++ src) (ep + src.length)) → Heap.SameBut dd s.heap H' → Q () { s with heap := H' }) :
    wpAny (model C.prog C.w) A (mergeMapping dd (.ref a) false) Q E s := by
  have hT : s.TypeIs (.ref a) "dict" := ⟨_, ha, rfl⟩
  unfold mergeMapping
  refine wpAny_bind (wpAny_isInstance hT F.sub_dict_dict ?_)
  rw [if_pos rfl]
  refine wpAny_bind (wpAny_specialOf (name := Str.ofString "__iter__") hT F.slot_dict_iter.lookup ?_)
  refine wpAny_bind (wpAny_pure ?_)
  rw [beq_self_eq_true]
  dsimp only
  rw [lo, if_neg Bool.false_ne_true]
  refine wpAny_bind (wpAny_dictEntries hd rfl ?_)
  have body : wpAny (model C.prog C.w) A (do
      let es ← dictEntries a
      let epoch ← dictEpoch a
      forIn (List.range es.size) PUnit.unit fun i __s => (do
        match (← dictEntries a)[i]? with
        | some e => do
          holding [e.key, e.val] (dictPut dd e.hash e.key e.val)
          if ((← dictEpoch a) != epoch) = true then do
            unsupported "dict.changed-during-merge"
            pure (ForInStep.yield PUnit.unit)
          else pure (ForInStep.yield PUnit.unit)
        | _ => do
          unsupported "dict.changed-during-merge"
          pure (ForInStep.yield PUnit.unit) : Sem (ForInStep PUnit))
      pure ()) Q E s := by
    refine wpAny_bind (wpAny_dictEntries ha rfl ?_)
    refine wpAny_bind (wpAny_dictEpoch ha rfl ?_)
    have hsz : src.toArray.size = src.length := by simp
    rw [hsz, List.range_eq_range']
    refine wpAny_bind (merge_loop hne al2 _ (fun i u => rfl) src.length 0 acc ents ep s _ (by omega) hd ha al (by simpa using nd) (by rw [← al2.length]; exact sz) fun H' x y => wpAny_pure (k H' (by simpa using x) y))
  split
  · refine wpAny_bind (wpAny_dictEntries ha rfl ?_)
    refine wpAny_bind (PySem.MeetsSeq2.wpAny_forIn_array _ (fun l _ s' => s' = s ∧ ∀ e ∈ l, ∃ x t, e.key = .str x t) _ ?_ ?_ _ _ ?_)
    · rintro x rest b s' ⟨rfl, h⟩
      obtain ⟨y, t, e⟩ := h x (.head _)
      rw [e]
      exact wpAny_pure ⟨rfl, fun e he => h e (.tail _ he)⟩
    · rintro b s' ⟨rfl, _⟩
      exact body
    · refine ⟨rfl, fun e he => ?_⟩
      obtain ⟨k, h1, _⟩ := keys_dict al2 e (by simpa using he)
      obtain ⟨t, h2⟩ := Value.isStrOf_shape h1
      exact ⟨_, t, h2⟩
  · exact body
end
end Mine

end

section
open PySem PySem.Calls PyProof.Rows PySem.W
namespace Mine

theorem gather {mn : Option Addr} (f : (Option (Sem Value) × Sem Value) → (Option Addr × List (Sem Value × Sem Value)) → Sem (ForInStep (Option Addr × List (Sem Value × Sem Value))))
    (hf : ∀ (p : Sem Value × Sem Value) (run : List (Sem Value × Sem Value)), run.length + 1 < 17 → f (some p.1, p.2) (mn, run) = pure (.yield (mn, run ++ [p]))) :
    ∀ (items run : List (Sem Value × Sem Value)), run.length + items.length < 17 → forIn (items.map fun p => (some p.1, p.2)) (mn, run) f = pure (mn, run ++ items)
  | [], run, _ => by simp
  | p :: rest, run, h => by
    rw [List.map_cons, List.forIn_cons, hf p run (by simp at h; omega), pure_bind]
    have := gather f hf rest (run ++ [p]) (by simp at h ⊢; omega)
    simpa using this

section
variable {C : Cx} {N : Nm} {sc : Scope} {env : Env} {A₀ : Pf} {A : Around} {d : Nat} {m : M} {h h' : Hp} {v : V} {s : Shared} {β : List Addr} {Q : Value → Shared → Prop} {E : Value → Shared → Prop} {S : Sm}

theorem Gd.alloc' {w : World} {L : Pl} {G : Heap} {T : Nat} {H H' : Heap} (g : Gd w L G β T h H) (hk : ∀ b o, H.get? b = some o → H'.get? b = some o) {o : O} {ob : Obj} (hob : H'.get? H.objs.size = some ob) (ho : ORd w L (β ++ [H.objs.size]) T o ob) :
    Gd w L G (β ++ [H.objs.size]) T (h ++ [o]) H' ∧ Ext β H (β ++ [H.objs.size]) H' := by
  have hp : Pre β (β ++ [H.objs.size]) := ⟨_, rfl⟩
  have key := g.alloc (o := .list []) (ob := ⟨.type "list", none, .seq #[] 0, #[]⟩) rfl ⟨⟨_, _, _, _, rfl, trivial, Nat.zero_le _⟩, rfl⟩
  refine ⟨⟨by simp [g.len], key.1.nd, ?_, fun b o' e => hk _ _ (g.base b o' e), key.1.new, g.pos, g.g3, key.1.big⟩, hp, fun b o' n e => ⟨hk b o' e, (key.2.keep b o' n e).2⟩⟩
  intro k o' a e1 e2
  rcases Nat.lt_or_ge k h.length with q | q
  · rw [List.getElem?_append_left q] at e1
    rw [List.getElem?_append_left (by rw [g.len]; exact q)] at e2
    obtain ⟨ob', x, y⟩ := g.objs k o' a e1 e2
    exact ⟨ob', hk _ _ x, y.mono hp (Nat.le_refl _)⟩
  · rw [List.getElem?_append_right q] at e1
    rw [List.getElem?_append_right (by rw [g.len]; exact q), g.len] at e2
    have hk : k - h.length = 0 := by
      rcases Nat.eq_zero_or_pos (k - h.length) with z | z
      · exact z
      · rw [List.getElem?_eq_none (by simp; omega)] at e1; cases e1
    rw [hk] at e1 e2
    simp at e1 e2
    subst e1 e2
    exact ⟨ob, hob, ho⟩

theorem new_ref {w : World} {L : Pl} {G : Heap} {T : Nat} {H : Heap} (g : Gd w L G β T h H) : VR L (β ++ [H.objs.size]) T (.ref h.length) (.ref H.objs.size) :=
  ⟨H.objs.size, by rw [← g.len]; simp, rfl⟩

theorem ev_dict0 {ks vs : MEs} {p : Pos} (ok : ME.ok N sc (.dict .no ks vs p) = true) (e : stepE C.X S (.dict .no ks vs p) m h = some (v, h')) (G : Gd C.w C.L C.G β s.toks h s.heap) (pst : Pst C s β h' v Q) :
    GE C N env A Q E s (ME.dict .no ks vs p) := by
  replace ok := (show (_ && _) = true from ok)
  simp only [Bool.and_eq_true, decide_eq_true_eq] at ok
  obtain ⟨⟨⟨⟨⟨_, h1⟩, h2⟩, okl⟩, oknd⟩, _⟩ := ok
  obtain ⟨es, e1, e2⟩ := bind_some e
  cases e2
  obtain ⟨el, ek⟩ := pairs_len e1
  have fin : ∀ H' ents T, s.toks ≤ T → H'.get? s.heap.objs.size = some (dictO ents es.length) → All2 (ER C.w C.L [] T true) es ents → (∀ b o, s.heap.get? b = some o → H'.get? b = some o) → Q (.ref s.heap.objs.size) { s with heap := H', toks := T } := by
    intro H' ents T a b c k
    have g1 := (G.toks a).alloc' k b (o := .dict true es.length es) ⟨⟨ents.toArray, rfl, by simpa using c.mono fun _ _ => ER.mono ⟨_, rfl⟩ (Nat.le_refl _), by rw [ek]; exact oknd, by unfold LIM; omega⟩, rfl⟩
    exact pst _ _ H' T a g1.2 g1.1 (new_ref (G.toks a))
  show wpAny _ _ (eval (.Dict (ks.backSome N) (vs.back N) p) env) Q E s
  rcases pairs_inv e1 with ⟨rfl, rfl, rfl⟩ | ⟨k, p1, c, q1, ks, vs, r, rfl, rfl, h4, rfl⟩
  · refine wpAny_Dict_empty (fin _ [] s.toks (Nat.le_refl _) ?_ trivial (get?_push_keep _))
    exact Heap.get?_push_size _ rfl
  · rw [arm_eval_Dict, pairTrees_zip e1]
    refine wpAny_bind (wpAny_standAt ?_)
    have hne : pairTrees N env p (.cons (.cst (.str k) p1) ks) (.cons (.cst c q1) vs) ≠ [] := List.cons_ne_nil _ _
    rw [dictDisplay_pairs _ hne (Nat.lt_of_le_of_lt pairTrees_len (by omega))]
    exact wpAny_bind (subDict_sound e1 h1 h2 okl oknd G.pos fun H' ents T a b c k => wpAny_pure (fin H' ents T a b c k))

theorem evs_len : ∀ {es : MEs} {h h' : Hp} {vs : List V}, evs S es m h = some (vs, h') → vs.length = es.len
  | .nil, h, h', vs, e => by cases e; rfl
  | .cons x r, h, h', vs, e => by
    obtain ⟨⟨v, h1⟩, e1, e2⟩ := bind_some e
    obtain ⟨⟨vs', h2⟩, e3, e4⟩ := bind_some e2
    cases e4
    rw [List.length_cons, evs_len e3]; rfl
theorem ev_list {es : MEs} {p : Pos} (ih : SEv C S d) (V₀ : EnvOk C N sc env A₀) (hA : AOk A d) (ok : ME.ok N sc (.list es p) = true) (e : stepE C.X S (.list es p) m h = some (v, h')) (G : Gd C.w C.L C.G β s.toks h s.heap) (F : Frm C.L C.G N β s.toks m A₀ s.heap) (pst : Pst C s β h' v Q) :
    GE C N env A Q E s (ME.list es p) := by
  replace ok := (show (_ && _) = true from ok)
  simp only [Bool.and_eq_true, decide_eq_true_eq] at ok
  obtain ⟨⟨vs, h1⟩, e1, e2⟩ := bind_some e
  cases e2
  have hl := evs_len e1
  refine List_ ?_
  rw [trees]
  refine args_sound ih V₀ hA es h h1 vs ok.1 e1 s β _ E G F fun xs β1 H1 T1 t1 x1 g1 r1 => ?_
  have hxl : xs.length = vs.length := r1.length.symm
  refine wpAny_newObj_type ?_ (by show xs.toArray.size ≤ sizeLine; rw [List.size_toArray, sizeLine_eq]; omega)
  have g2 := g1.alloc' (get?_push_keep { cls := .type "list", data := .seq xs.toArray }) (Heap.get?_push_size _ rfl) (o := .list vs) ⟨⟨_, _, _, _, rfl, by simpa using r1.mono fun _ _ => VR.mono ⟨_, rfl⟩ (Nat.le_refl _), by unfold LIM; omega⟩, rfl⟩
  exact pst _ _ _ T1 t1 (x1.trans g2.2) g2.1 (new_ref g1)
theorem guarded {α : Type} {M : Model} {t : Sem α} {k : Value → Sem Unit} {Q : α → Shared → Prop} (h : wpAny M A t Q (fun _ _ => False) s) : wpAny M A (t.onRaise k) Q E s :=
  wpAny_onRaise (wpAny_mono h (fun _ _ x => x) fun _ _ x => x.elim)

theorem obj_at2 (ok0 : C.Ok) {T : Nat} {H : Heap} (g : Gd C.w C.L C.G β T h H) {v : V} {o : O} (e : obj C.X h v = some o) {x : Value} (r : VR C.L β T v x) :
    ∃ a ob, x = .ref a ∧ H.get? a = some ob ∧ OR C.w C.L β T o ob ∧ ((∀ vs, o ≠ O.list vs) → (a == sysModules) = false) ∧ (a ∈ β ∨ ∃ o, C.G.get? a = some o) := by
  obtain ⟨a, ob, rfl, q, z, lo⟩ := obj_at ok0 g e r
  refine ⟨a, ob, rfl, q, z, lo, ?_⟩
  cases v with
  | ref k => obtain ⟨a', ha, e⟩ := r; cases e; exact .inl (List.mem_of_getElem? ha)
  | ext j =>
    obtain ⟨a', ha, e⟩ := r
    cases e
    obtain ⟨a', ob', ha', q, _⟩ := ok0.ext j o (by assumption)
    rw [ha] at ha'; cases ha'
    exact .inr ⟨_, q⟩
  | _ => cases e

theorem Gd.adopt {w : World} {L : Pl} {G : Heap} {T : Nat} {H H' : Heap} {dd : Addr} (g : Gd w L G β T h H) (hd : dd ∉ β) (hG : G.get? dd = none) (hb : (dd == sysModules) = false) (hk : ∀ b o, b ≠ dd → H.get? b = some o → H'.get? b = some o) {o : O} {ob : Obj}
    (hob : H'.get? dd = some ob) (ho : ORd w L (β ++ [dd]) T o ob) : Gd w L G (β ++ [dd]) T (h ++ [o]) H' := by
  have hp : Pre β (β ++ [dd]) := ⟨_, rfl⟩
  refine ⟨by simp [g.len], ?_, ?_, fun b o' e => hk b o' (fun z => by rw [z, hG] at e; cases e) (g.base b o' e), ?_, g.pos, g.g3, ?_⟩
  · rw [List.nodup_append]
    refine ⟨g.nd, by simp, ?_⟩
    intro a ha b hb
    simp at hb
    subst hb
    exact fun e => hd (e ▸ ha)
  · intro k o' a e1 e2
    rcases Nat.lt_or_ge k h.length with q | q
    · rw [List.getElem?_append_left q] at e1
      rw [List.getElem?_append_left (by rw [g.len]; exact q)] at e2
      obtain ⟨ob', x, y⟩ := g.objs k o' a e1 e2
      exact ⟨ob', hk _ _ (fun z => hd (z ▸ List.mem_of_getElem? e2)) x, y.mono hp (Nat.le_refl _)⟩
    · rw [List.getElem?_append_right q] at e1
      rw [List.getElem?_append_right (by rw [g.len]; exact q), g.len] at e2
      have hk : k - h.length = 0 := by
        rcases Nat.eq_zero_or_pos (k - h.length) with z | z
        · exact z
        · rw [List.getElem?_eq_none (by simp; omega)] at e1; cases e1
      rw [hk] at e1 e2
      simp at e1 e2
      subst e1 e2
      exact ⟨ob, hob, ho⟩
  · intro a ha
    rcases List.mem_append.mp ha with q | q
    · exact g.new a q
    · simp at q; subst q; exact hG
  · intro a ha
    rcases List.mem_append.mp ha with q | q
    · exact g.big a q
    · simp at q; subst q; exact hb

theorem fresh_big {w : World} {L : Pl} {G : Heap} {T : Nat} {H : Heap} (g : Gd w L G β T h H) : (H.objs.size == sysModules) = false := by
  obtain ⟨o3, h3⟩ := g.g3
  have := Heap.lt_size (g.base _ _ h3)
  exact beq_eq_false_iff_ne.mpr (Nat.ne_of_gt (Nat.lt_trans (by decide) this))

theorem ev_spread {x : ME} {ks vs : MEs} {p : Pos} (ok0 : C.Ok) (ih : SEv C S d) (V₀ : EnvOk C N sc env A₀) (hA : AOk A d) (ok : ME.ok N sc (.dict (.yes x) ks vs p) = true) (e : stepE C.X S (.dict (.yes x) ks vs p) m h = some (v, h'))
    (G : Gd C.w C.L C.G β s.toks h s.heap) (F : Frm C.L C.G N β s.toks m A₀ s.heap) (pst : Pst C s β h' v Q) :
    GE C N env A Q E s (ME.dict (.yes x) ks vs p) := by
  replace ok := (show (_ && _) = true from ok)
  simp only [Bool.and_eq_true, decide_eq_true_eq] at ok
  obtain ⟨⟨⟨⟨⟨okx, h1⟩, h2⟩, okl⟩, oknd⟩, okn⟩ := ok
  obtain ⟨⟨a, hh⟩, e1, e2⟩ := bind_some e
  simp only at e2
  split at e2
  · rename_i rep ep es ho
    obtain ⟨more, e3, e4⟩ := bind_some e2
    split at e4
    · rename_i hcond
      cases e4
      obtain ⟨el, ek⟩ := pairs_len e3
      show wpAny _ _ (eval (.Dict (none :: ks.backSome N) (x.back N :: vs.back N) p) env) Q E s
      rw [arm_eval_Dict]
      refine wpAny_bind (wpAny_standAt ?_)
      have hz : (evalEachOpt (none :: ks.backSome N) env).zip ((evalEach (x.back N :: vs.back N) env).map fun v => do let x ← v; standAt p; pure x) =
          (none, do let x ← eval (x.back N) env; standAt p; pure x) :: (pairTrees N env p ks vs).map fun p => (some p.1, p.2) := by
        rw [← pairTrees_zip e3]; rfl
      rw [hz]
      unfold dictDisplay
      dsimp only
      rw [List.forIn_cons]
      refine wpAny_bind (wpAny_bind ?_)
      dsimp only
      refine wpAny_bind ?_
      rw [if_pos (by rfl)]
      refine wpAny_pure ?_
      dsimp only
      refine wpAny_bind (wpAny_alloc ?_)
      have hk0 := get?_push_keep (H := s.heap) { cls := .type "dict", data := .dict #[] }
      refine wpAny_bind (wpAny_holding (wpAny_bind ?_))
      refine ih x N sc env A₀ A m h hh a okx V₀ hA e1 { s with heap := s.heap.push { cls := .type "dict", data := .dict #[] } } β _ E (G.grow hk0) (F.ext (Ext.grow hk0) (Nat.le_refl _)) fun y β1 H1 T1 t1 x1 g1 r1 => ?_
      refine wpAny_bind (wpAny_standAt (wpAny_pure ?_))
      obtain ⟨a', ob, rfl, q, z, lo0, hin⟩ := obj_at2 ok0 g1 ho r1
      have lo := lo0 (fun vs e => by cases e)
      obtain ⟨ents, rfl, al, nd, le⟩ := z
      have hd1 := x1.keep s.heap.objs.size _ G.fresh.1 (Heap.get?_push_size _ rfl)
      have hne : a' ≠ s.heap.objs.size := by
        rintro rfl
        rcases hin with hin | ⟨o, ho⟩
        · exact hd1.2 hin
        · rw [G.fresh.2] at ho; cases ho
      have hnd : ((es ++ more).map (·.1)).Nodup := by
        rw [List.map_append, List.nodup_append]
        refine ⟨nd, by rw [ek]; exact oknd, ?_⟩
        intro k hk k' hk' hkk
        subst hkk
        obtain ⟨p', hp', rfl⟩ := List.mem_map.mp hk'
        have := List.all_eq_true.mp hcond.2 p' hp'
        unfold keyIn at this
        rw [Option.isNone_map, Option.isNone_iff_eq_none, List.find?_eq_none] at this
        obtain ⟨e', he', hee⟩ := List.mem_map.mp hk
        exact this e' he' (by simp [hee])
      have heq : ents.toList.toArray = ents := Array.toArray_toList ..
      have q' : H1.get? a' = some (dictO ents.toList ep) := by simp only [dictO, heq]; exact q
      refine wpAny_bind (guarded (wpAny_tryCatch (guarded (wpAny_holding (merge_new (s := { s with heap := H1, toks := T1 }) (acc := []) (ents := []) (ep := 0) (ep2 := ep) (src := ents.toList) (more := es) (T := T1) (rep := true) (rep2 := rep) (β := β1) hne lo hd1.1 q' trivial al (by simpa using nd) (by simpa using le) fun H2 g2 s2 => ?_)))))
      refine wpAny_pure ?_
      dsimp only
      rw [gather _ (fun p run h => by
        have hne : ((run ++ [(p.1, p.2)]).length == 17) = false := by simp; omega
        simp only [hne, Bool.false_eq_true, if_false]) (pairTrees N env p ks vs) [] (by have := pairTrees_len (N := N) (env := env) (pos := p) (ks := ks) (vs := vs); simp; omega)]
      refine wpAny_bind (wpAny_pure ?_)
      refine wpAny_pure ?_
      dsimp only
      have hpe : ([] ++ pairTrees N env p ks vs).isEmpty = false := by
        rcases pairs_inv e3 with ⟨rfl, rfl, rfl⟩ | ⟨k, p1, c, q1, ks, vs, r, rfl, rfl, h4, rfl⟩
        · exact absurd okn (by decide)
        · rfl
      rw [hpe, if_neg Bool.false_ne_true]
      have hlen : ents.toList.length = es.length := al.length.symm
      have g2' : H2.get? s.heap.objs.size = some (dictO ents.toList es.length) := by simpa [hlen] using g2
      have g20 : 0 < T1 := g1.pos
      refine wpAny_bind (wpAny_bind (wpAny_holding (subDict_sound (s := { s with heap := H2, toks := T1 }) e3 h1 h2 okl oknd g20 fun H3 ents2 T2 t2 o2 al2 k2 => ?_)))
      have hne2 : H2.objs.size ≠ s.heap.objs.size := Nat.ne_of_gt (Heap.lt_size g2')
      have lo2 : (H2.objs.size == sysModules) = false := by
        obtain ⟨o3, h3⟩ := g1.g3
        have h3' := g1.base _ _ h3
        have : 3 < H2.objs.size := by
          by_cases z : (3 : Nat) = s.heap.objs.size
          · have := fresh_big G
            exact absurd (Heap.lt_size (G.base _ _ h3)) (by rw [← z]; exact Nat.lt_irrefl _)
          · exact Heap.lt_size ((s2.2 3 z).trans h3')
        exact beq_eq_false_iff_ne.mpr (Nat.ne_of_gt (Nat.lt_trans (by decide) this))
      have alE : All2 (ER C.w C.L β1 T2 rep) es ents.toList := al.mono fun _ _ => ER.mono (Pre.refl _) t2
      have alM : All2 (ER C.w C.L β1 T2 true) more ents2 := al2.mono fun _ _ => ER.mono ⟨β1, rfl⟩ (Nat.le_refl _)
      refine wpAny_bind (guarded (wpAny_holding (merge_new (s := { s with heap := H3, toks := T2 }) hne2 lo2 (k2 _ _ g2') o2 alE alM hnd (by unfold LIM; omega) fun H4 g4 s4 => wpAny_pure (wpAny_pure ?_))))
      have hl2 : ents2.length = more.length := alM.length.symm
      have keep : ∀ b o, b ≠ s.heap.objs.size → H1.get? b = some o → H4.get? b = some o := fun b o n e => (s4.2 b n).trans (k2 b o ((s2.2 b n).trans e))
      have gg := (g1.toks t2).adopt hd1.2 G.fresh.2 (fresh_big G) keep (o := .dict rep (es.length + more.length) (es ++ more)) (ob := dictO (ents.toList ++ ents2) (es.length + more.length)) (by rw [g4, hl2])
        ⟨⟨_, rfl, by
          have a1 : All2 (ER C.w C.L (β1 ++ [s.heap.objs.size]) T2 rep) es ents.toList := alE.mono fun _ _ => ER.mono ⟨_, rfl⟩ (Nat.le_refl _)
          have a2 : All2 (ER C.w C.L (β1 ++ [s.heap.objs.size]) T2 rep) more ents2 := alM.mono fun _ _ => ER_weak ⟨_, rfl⟩ (Nat.le_refl _) fun _ => rfl
          simpa using All2.append a1 a2, hnd, by rw [List.length_append]; unfold LIM; omega⟩, rfl⟩
      refine pst _ (β1 ++ [s.heap.objs.size]) H4 T2 (Nat.le_trans t1 t2) ⟨x1.pre.trans ⟨_, rfl⟩, fun b o n e => ?_⟩ gg ⟨s.heap.objs.size, by rw [← g1.len]; simp, rfl⟩
      have nb : b ≠ s.heap.objs.size := Nat.ne_of_lt (Heap.lt_size e)
      have kb := x1.keep b o n (Heap.get?_push_of_some _ e)
      refine ⟨keep b o nb kb.1, fun hm => ?_⟩
      rcases List.mem_append.mp hm with q | q
      · exact kb.2 q
      · simp at q; exact nb q
    · cases e4
  · cases e2
end
end Mine

end

section
open PySem PySem.Calls PyProof.Rows PySem.W
namespace Mine

noncomputable def STr (C : Cx) (S : Sm) (d : Nat) : Prop :=
  ∀ (e : ME) (N : Nm) (sc : Scope) (env : Env) (A₀ : Pf) (A : Around) (m : M) (h h' : Hp) (v : V) (t : Bool), e.ok N sc = true → EnvOk C N sc env A₀ → AOk A d → S.ev e m h = some (v, h') → truth C.X h' v = some t →
  ∀ (s : Shared) (β : List Addr) (Q : Bool → Shared → Prop) (E : Value → Shared → Prop), Gd C.w C.L C.G β s.toks h s.heap → Frm C.L C.G N β s.toks m A₀ s.heap →
  (∀ β' H' T', s.toks ≤ T' → Ext β s.heap β' H' → Gd C.w C.L C.G β' T' h' H' → Q t { s with heap := H', toks := T' }) →
  wpAny (model C.prog C.w) A (isTrue (e.back N) env (eval (e.back N) env)) Q E s

section
variable {C : Cx} {N : Nm} {sc : Scope} {env : Env} {A₀ : Pf} {A : Around} {d : Nat} {m : M} {h h' : Hp} {v : V} {s : Shared} {β : List Addr} {Q : Value → Shared → Prop} {E : Value → Shared → Prop} {S : Sm}

theorem part_sound {lo : MO} {l : Option Int} {Q : Value → Shared → Prop} (ih : SEv C S d) (V₀ : EnvOk C N sc env A₀) (hA : AOk A d) (ok : lo.ok N sc = true) (e : evO S lo m h = some (l, h')) (G : Gd C.w C.L C.G β s.toks h s.heap) (Fm : Frm C.L C.G N β s.toks m A₀ s.heap)
    (k : ∀ (p : Option (Int × Tok)) β' H' T', p.map (·.1) = l → s.toks ≤ T' → Ext β s.heap β' H' → Gd C.w C.L C.G β' T' h' H' → Q (partValue p) { s with heap := H', toks := T' }) :
    wpAny (model C.prog C.w) A (evalPart (lo.back N) env) Q E s := by
  cases lo with
  | no =>
    cases e
    exact evalPart_none_step (k none β s.heap s.toks rfl (Nat.le_refl _) (Ext.refl _ _) G)
  | yes e' =>
    obtain ⟨⟨v, h1⟩, e1, e2⟩ := bind_some e
    refine evalPart_some_step (ih e' N sc env A₀ A m h h1 v ok V₀ hA e1 s β _ E G Fm fun x β1 H1 T1 t1 x1 g1 r1 => ?_)
    simp only at e2
    split at e2
    · cases e2
      obtain ⟨t, rfl⟩ := r1
      exact k (some (_, t)) β1 H1 T1 rfl t1 x1 g1
    · cases e2

theorem part_is {p : Option (Int × Tok)} {l : Option Int} (h : p.map (·.1) = l) : IsPart (partValue p) l := by
  subst h
  cases p with
  | none => exact .none
  | some q => exact .int q.1 q.2
theorem clip_clamp (i : Int) (n : Nat) : clipAt n i = clamp i n := by
  have := clip_is i n
  unfold clipAt
  rw [this]
  rfl
theorem All2.drop {α β : Type} {R : α → β → Prop} : ∀ {l : List α} {r : List β} (k : Nat), All2 R l r → All2 R (l.drop k) (r.drop k)
  | _, _, 0, h => h
  | [], [], _ + 1, h => h
  | _ :: _, _ :: _, k + 1, h => All2.drop k h.2
  | [], _ :: _, _, h => h.elim
  | _ :: _, [], _, h => h.elim
theorem All2.take {α β : Type} {R : α → β → Prop} : ∀ {l : List α} {r : List β} (k : Nat), All2 R l r → All2 R (l.take k) (r.take k)
  | _, _, 0, _ => by simp [All2]
  | [], [], _ + 1, h => h
  | _ :: _, _ :: _, k + 1, h => ⟨h.1, All2.take k h.2⟩
  | [], _ :: _, _, h => h.elim
  | _ :: _, [], _, h => h.elim
theorem slcL_is (l : List V) (lo hi : Option Int) : slcL l lo hi = (l.drop (lo.elim 0 fun i => clamp i l.length)).take ((hi.elim l.length fun i => clamp i l.length) - (lo.elim 0 fun i => clamp i l.length)) := by
  unfold slcL
  rw [List.drop_take]
  cases lo <;> cases hi <;> rfl
theorem slcL_len (l : List V) (lo hi : Option Int) : (slcL l lo hi).length ≤ l.length := by
  unfold slcL
  rw [List.length_drop, List.length_take]
  exact Nat.le_trans (Nat.sub_le _ _) (Nat.min_le_right _ _)

theorem ev_slice {x : ME} {lo hi : MO} {sp p : Pos} (ok0 : C.Ok) (ih : SEv C S d) (V₀ : EnvOk C N sc env A₀) (hA : AOk A d) (ok : ME.ok N sc (.slice x lo hi sp p) = true) (e : stepE C.X S (.slice x lo hi sp p) m h = some (v, h')) (G : Gd C.w C.L C.G β s.toks h s.heap) (Fm : Frm C.L C.G N β s.toks m A₀ s.heap) (pst : Pst C s β h' v Q) :
    GE C N env A Q E s (ME.slice x lo hi sp p) := by
  replace ok := (show (_ && _) = true from ok)
  simp only [Bool.and_eq_true] at ok
  obtain ⟨⟨okx, okl⟩, okh⟩ := ok
  obtain ⟨⟨a, h1⟩, e1, e2⟩ := bind_some e
  obtain ⟨⟨l, h2⟩, e3, e4⟩ := bind_some e2
  obtain ⟨⟨u, h3⟩, e5, e6⟩ := bind_some e4
  simp only at e6
  split at e6
  · rename_i y
    cases e6
    refine Subscript_ ?_
    refine ih x N sc env A₀ A m h h1 _ okx V₀ hA e1 s β _ E G Fm fun ya β1 H1 T1 t1 x1 g1 r1 => ?_
    have F1 := Fm.ext x1 t1
    refine wpAny_Slice ?_
    refine part_sound (s := { s with heap := H1, toks := T1 }) ih V₀ hA okl e3 g1 F1 fun pl β2 H2 T2 hpl t2 x2 g2 => ?_
    have F2 := F1.ext x2 t2
    refine part_sound (s := { s with heap := H2, toks := T2 }) ih V₀ hA okh e5 g2 F2 fun pu β3 H3 T3 hpu t3 x3 g3 => ?_
    refine evalPart_none_step ?_
    have r3 := r1.mono (x2.pre.trans x3.pre) (Nat.le_trans t2 t3)
    obtain ⟨t, rfl, q0, q1, ql⟩ := r3
    have hk := get?_push_keep (H := H3) { cls := .type "slice", data := .fields #[partValue pl, partValue pu, .none] }
    refine tail_any (ops := [.ref H3.objs.size, .str ⟨y.toArray⟩ t]) (typeIs_str _ _ _) F.slot_str_getitem.lookup ?_ rfl
    refine wpAny_getItem_str_slice (l := pl) (u := pu) (st := none) ⟨_, Heap.get?_push_size _ rfl, rfl, rfl⟩ rfl ?_
    have hyl : (⟨y.toArray⟩ : Str).length = y.length := by simp [Str.length]
    have pk : slicePicked ⟨y.toArray⟩ pl pu none = Builtin.Str.strSliceIndices l u 1 y.length := by
      unfold slicePicked
      rw [hpl, hpu, hyl]; rfl
    have tx := slc_picked y l u
    have P1 : Pst C { s with heap := H3.push { cls := .type "slice", data := .fields #[partValue pl, partValue pu, .none] }, toks := T3 } β3 h' (.str (slc y l u)) Q :=
      pst.step (Nat.le_trans t1 (Nat.le_trans t2 t3)) ((x1.trans (x2.trans x3)).trans (Ext.grow hk))
    have le := slc_len y l u
    refine made_str (s := { s with heap := H3.push { cls := .type "slice", data := .fields #[partValue pl, partValue pu, .none] }, toks := T3 }) (g3.grow hk) P1 (fun hc => ?_) (fun hc => ?_)
    · rw [pk, hyl] at hc
      have : (Builtin.Str.strSliceIndices l u 1 y.length).length = y.length := by simpa using hc
      rw [slc_all y l u this]
      exact ⟨t, rfl, q0, q1, ql⟩
    · refine ⟨?_, by omega⟩
      rw [pk]
      exact congrArg (fun z : List Nat => (⟨z.toArray⟩ : Str)) tx
  · obtain ⟨ob, ho, e6⟩ := bind_some e6
    cases ob with
    | dict => cases e6
    | list vs =>
      cases e6
      refine Subscript_ ?_
      refine ih x N sc env A₀ A m h h1 _ okx V₀ hA e1 s β _ E G Fm fun ya β1 H1 T1 t1 x1 g1 r1 => ?_
      have F1 := Fm.ext x1 t1
      refine wpAny_Slice ?_
      refine part_sound (s := { s with heap := H1, toks := T1 }) ih V₀ hA okl e3 g1 F1 fun pl β2 H2 T2 hpl t2 x2 g2 => ?_
      have F2 := F1.ext x2 t2
      refine part_sound (s := { s with heap := H2, toks := T2 }) ih V₀ hA okh e5 g2 F2 fun pu β3 H3 T3 hpu t3 x3 g3 => ?_
      refine evalPart_none_step ?_
      have r3 := r1.mono (x2.pre.trans x3.pre) (Nat.le_trans t2 t3)
      obtain ⟨ad, ob, rfl, q, z, _⟩ := obj_at ok0 g3 ho r3
      obtain ⟨items, hl, al, le⟩ := OR.isList q z
      have hk := get?_push_keep (H := H3) { cls := .type "slice", data := .fields #[partValue pl, partValue pu, .none] }
      have hl' := hl.push { cls := .type "slice", data := .fields #[partValue pl, partValue pu, .none] }
      have hsz : items.size = vs.length := by rw [← Array.length_toList, al.length]
      have P1 := pst.step (Nat.le_trans t1 (Nat.le_trans t2 t3)) ((x1.trans (x2.trans x3)).trans (Ext.grow hk))
      refine tail_any (ops := [.ref H3.objs.size, .ref ad]) hl'.typeIs slot_list_getitem.lookup ?_ rfl
      refine wpAny_getItem_list_slice (lo := l) (hi := u) (st := none) hl' (Heap.IsSliceOf.new ..) (part_is hpl) (part_is hpu) .none (by simp) ?_ (by rw [hsz, sizeLine_eq]; exact le)
      have al2 : All2 (VR C.L (β3 ++ [(H3.push { cls := .type "slice", data := .fields #[partValue pl, partValue pu, .none] }).objs.size]) T3) (slcL vs l u) (slicePick items l u none).toList := by
        rw [slicePick_plain, slcL_is, hsz, show (clipAt vs.length) = fun i => clamp i vs.length from funext fun i => clip_clamp i _]
        exact (al.mono fun _ _ => VR.mono ⟨_, rfl⟩ (Nat.le_refl _)).drop _ |>.take _
      have hal := (g3.grow hk).alloc (o := .list (slcL vs l u)) (ob := { cls := .type "list", data := .seq (slicePick items l u none) }) rfl ⟨⟨_, _, _, _, rfl, al2, Nat.le_trans (slcL_len vs l u) le⟩, rfl⟩
      exact P1 _ _ _ T3 (Nat.le_refl _) hal.2 hal.1 ⟨_, by rw [← g3.len]; simp, rfl⟩

theorem base_plain {x : ME} {n : Str} (hc : x.notCall = true) : attributeBase (x.back N) n env (eval (x.back N) env) = eval (x.back N) env := by
  cases x <;> first | rfl | (rename_i sp ks vs p; cases sp <;> rfl) | (exact absurd hc Bool.false_ne_true)

theorem len_back : ∀ as : MEs, (as.back N).length = as.len
  | .nil => rfl
  | .cons _ r => by show (r.back N).length + 1 = r.len + 1; rw [len_back r]

theorem meth_rep {X : Hp} {a : V} {vs : List V} (e : meth X .replace a vs h = some (v, h')) : ∃ l y z, a = .str l ∧ vs = [.str y, .str z] ∧ (y ≠ [] ∧ l.length + (l.length + 1) * z.length ≤ LIM) ∧ v = .str (replace y z l) ∧ h' = h := by
  cases a <;> try (exfalso; cases e)
  rename_i l
  replace e := (show mRep l h vs = some (v, h') from e)
  unfold mRep at e
  split at e
  · rename_i y z
    by_cases hc : y ≠ [] ∧ l.length + (l.length + 1) * z.length ≤ LIM
    · rw [if_pos hc] at e
      cases e
      exact ⟨l, y, z, rfl, rfl, hc, rfl, rfl⟩
    · rw [if_neg hc] at e; cases e
  · cases e
theorem meth_join {X : Hp} {a : V} {vs : List V} (e : meth X .join a vs h = some (v, h')) : ∃ k us xs, a = .str [] ∧ vs = [.ref k] ∧ h[k]? = some (.list us) ∧ strsOf us = some xs ∧ xs.flatten.length ≤ LIM ∧ v = .str xs.flatten ∧ h' = h := by
  cases a <;> try (exfalso; cases e)
  rename_i l
  replace e := (show mJoin l h vs = some (v, h') from e)
  unfold mJoin at e
  split at e
  · rename_i k
    by_cases hc : l = []
    · subst hc
      rw [if_pos rfl] at e
      split at e
      · rename_i us hk
        obtain ⟨xs, hx, e⟩ := bind_some e
        by_cases hl : xs.flatten.length ≤ LIM
        · rw [if_pos hl] at e
          cases e
          exact ⟨k, us, xs, rfl, rfl, hk, hx, hl, rfl, rfl⟩
        · rw [if_neg hl] at e; cases e
      · cases e
    · rw [if_neg hc] at e; cases e
  · cases e
theorem meth_get {X : Hp} {a : V} {vs : List V} (e : meth X .get a vs h = some (v, h')) : ∃ k u rep ep es, vs = [.str k, u] ∧ obj X h a = some (.dict rep ep es) ∧ v = (keyIn k es).getD u ∧ h' = h := by
  replace e := (show mGet X h a vs = some (v, h') from e)
  unfold mGet at e
  split at e
  · rename_i k u
    split at e
    · rename_i rep ep es ho
      cases e
      exact ⟨k, u, rep, ep, es, rfl, ho, rfl, rfl⟩
    · cases e
  · cases e
theorem strs_vals {T : Nat} : ∀ {us : List V} {ys : List Value} {xs : List (List Nat)}, strsOf us = some xs → All2 (VR C.L β T) us ys → ∃ l : List (Str × Tok), ys = strValues l ∧ l.map (·.1) = xs.map (fun x => (⟨x.toArray⟩ : Str)) ∧ ∀ p ∈ l, 0 < p.2 ∧ p.2 < T
  | [], ys, xs, e, al => by
    cases e
    obtain rfl := al.nil_inv
    exact ⟨[], rfl, rfl, fun _ h => nomatch h⟩
  | u :: us, ys, xs, e, al => by
    obtain ⟨y, ys, rfl, hy, al'⟩ := al.cons_inv
    cases u <;> try (exfalso; cases e)
    rename_i x
    obtain ⟨xs', e1, rfl⟩ := map_some (show (strsOf us).map (x :: ·) = some xs from e)
    obtain ⟨l, rfl, h2, h3⟩ := strs_vals e1 al'
    obtain ⟨t, rfl, t0, t1, _⟩ := hy
    refine ⟨(⟨x.toArray⟩, t) :: l, rfl, by simp [h2], fun p hp => ?_⟩
    cases hp with
    | head => exact ⟨t0, t1⟩
    | tail _ hp => exact h3 p hp
theorem glued_flat (xs : List (List Nat)) : Builtin.Str.glued ⟨#[]⟩ (xs.map fun x => (⟨x.toArray⟩ : Str)) = ⟨xs.flatten.toArray⟩ := by
  have key : ∀ (xs : List (List Nat)) (acc : List Nat), (xs.map fun x => (⟨x.toArray⟩ : Str)).foldl (fun a p => a ++ (#[] : Array Nat) ++ p.cps) acc.toArray = (acc ++ xs.flatten).toArray := by
    intro xs
    induction xs with
    | nil => intro acc; simp
    | cons x xs ih =>
      intro acc
      rw [List.map_cons, List.foldl_cons]
      have : acc.toArray ++ (#[] : Array Nat) ++ (⟨x.toArray⟩ : Str).cps = (acc ++ x).toArray := by simp
      rw [this, ih]
      simp
  cases xs with
  | nil => rfl
  | cons x xs =>
    unfold Builtin.Str.glued
    have := key xs x
    show (⟨((xs.map fun x => (⟨x.toArray⟩ : Str)).foldl (fun a p => a ++ (#[] : Array Nat) ++ p.cps) x.toArray)⟩ : Str) = _
    rw [this]
    rfl
theorem join_sound {us : List V} {xs : List (List Nat)} {k : Nat} {a : Value} {u : Tok} (G : Gd C.w C.L C.G β s.toks h s.heap) (hk : h[k]? = some (.list us)) (e : strsOf us = some xs) (hl : xs.flatten.length ≤ LIM) (ra : VR C.L β s.toks (.ref k) a) (pst : Pst C s β h (.str xs.flatten) Q) :
    wpAny (model C.prog C.w) A (call (.builtin "str.join") [.str ⟨#[]⟩ u, a]) Q E s := by
  obtain ⟨ad, had, rfl⟩ := ra
  obtain ⟨ob, hob, r⟩ := G.objs k _ ad hk had
  obtain ⟨items, q1, q2, _⟩ := OR.isList hob r.1
  obtain ⟨l, h1, h2, h3⟩ := strs_vals e q2
  have hi : items = (strValues l).toArray := by rw [← h1]
  subst hi
  have hsum : ((xs.map fun x => (⟨x.toArray⟩ : Str)).map (·.length)).sum = xs.flatten.length := by
    rw [List.length_flatten, List.map_map]
    congr 1
  have hok : Builtin.Str.tooLong ((l.map (·.1)).toArray.foldl (· + ·.length + (⟨#[]⟩ : Str).length) 0) = false := by
    have := joinOk_of (sep := ⟨#[]⟩) (ys := l.map (·.1)) (by rw [h2, hsum]; unfold LIM at hl; have : (⟨#[]⟩ : Str).length = 0 := rfl; rw [this]; omega)
    unfold JoinOk at this
    rwa [Bool.not_eq_true'] at this
  refine call_meets F.slot_str_join (typeIs_str _ _ _) F.entry_str_join (F.args_str_join_2 _ _) (meets_str_join_list ⟨#[]⟩ u ad l hok) ⟨q1, ?_⟩
  have fresh : (Made.str (Builtin.Str.glued ⟨#[]⟩ (l.map (·.1)))).post Q s := by
    rw [h2, glued_flat]
    exact ⟨by rw [sizeLine_eq]; show xs.flatten.toArray.size ≤ _; rw [List.size_toArray]; exact hl, pst.same G (Nat.le_succ _) ⟨_, rfl, G.pos, Nat.lt_succ_self _, hl⟩⟩
  have one : ∀ p, l = [p] → Q (.str p.1 p.2) s := by
    rintro p rfl
    obtain ⟨x, rfl⟩ : ∃ x, xs = [x] := by
      cases xs with
      | nil => simp at h2
      | cons x xs => cases xs with
        | nil => exact ⟨x, rfl⟩
        | cons => simp at h2
    have hp : p.1 = ⟨x.toArray⟩ := by simpa using h2
    have := h3 p (.head _)
    exact pst.here G ⟨p.2, by rw [hp]; simp, this.1, this.2, hl⟩
  unfold joinMade
  split
  · exact one _ rfl
  · exact fresh
theorem get_rel {T : Nat} {k : List Nat} : ∀ {es : List (List Nat × V)} {kvs : List (Str × Value)}, All2 (fun (e : List Nat × V) (kv : Str × Value) => kv.1 = ⟨e.1.toArray⟩ ∧ VR C.L β T e.2 kv.2) es kvs → ∀ {u : V} {y : Value}, VR C.L β T u y → VR C.L β T ((keyIn k es).getD u) ((valueAt kvs ⟨k.toArray⟩).getD y)
  | [], kvs, al, u, y, r => by
    obtain rfl := al.nil_inv
    exact r
  | e :: es, kvs, al, u, y, r => by
    obtain ⟨kv, kvs, rfl, he, al⟩ := al.cons_inv
    have ih := get_rel (k := k) al r
    obtain ⟨h1, h2⟩ := he
    obtain ⟨k', x⟩ := kv
    obtain rfl : k' = ⟨e.1.toArray⟩ := h1
    by_cases hk : e.1 = k
    · have h1 : keyIn k (e :: es) = some e.2 := by simp [keyIn, hk]
      have h3 : valueAt ((⟨e.1.toArray⟩, x) :: kvs) ⟨k.toArray⟩ = some x := by simp [valueAt, hk]
      rw [h1, h3]; exact h2
    · have hk' : (⟨e.1.toArray⟩ : Str) ≠ ⟨k.toArray⟩ := fun q => hk (congrArg (fun x : Str => x.cps.toList) q)
      have h1 : keyIn k (e :: es) = keyIn k es := by simp [keyIn, hk]
      have h3 : valueAt ((⟨e.1.toArray⟩, x) :: kvs) ⟨k.toArray⟩ = valueAt kvs ⟨k.toArray⟩ := by simp [valueAt, hk']
      rw [h1, h3]; exact ih
theorem repArgs_inv {as : MEs} (h : repArgs as = true) : ∃ y py z pz, as = .cons (.cst (.str y) py) (.cons (.cst (.str z) pz) .nil) := by
  unfold repArgs at h
  cases h1 : as.two with
  | none => rw [h1] at h; cases h
  | some q =>
    obtain ⟨a, r⟩ := q
    rw [h1] at h
    obtain ⟨h2, h3⟩ := Bool.and_eq_true_iff.mp h
    cases h4 : r.two with
    | none => rw [h4] at h3; cases h3
    | some q =>
      obtain ⟨b, t⟩ := q
      rw [h4] at h3
      obtain ⟨h5, h6⟩ := Bool.and_eq_true_iff.mp h3
      obtain ⟨y, hy⟩ := Option.isSome_iff_exists.mp h2
      obtain ⟨z, hz⟩ := Option.isSome_iff_exists.mp h5
      obtain ⟨py, rfl⟩ := strOf_inv hy
      obtain ⟨pz, rfl⟩ := strOf_inv hz
      exact ⟨y, py, z, pz, by rw [two_inv h1, two_inv h4, two_nil (Option.isNone_iff_eq_none.mp h6)]⟩
theorem on_str {n : Mt} {id : String} {l : List Nat} {x : ME} {ap p : Pos} {as : MEs} (ih : SEv C S d) (V₀ : EnvOk C N sc env A₀) (hA : AOk A d) (okx : x.ok N sc = true) (okp : (ap.endLine == p.line) = true) (okl : as.len < 30) (okc : x.notCall = true) (slot : Slot "str" (Str.ofString n.name) id) (ty : typeOf (.builtin id) = pure (.type "method_descriptor"))
    {h1 : Hp} (e1 : S.ev x m h = some (.str l, h1)) (G : Gd C.w C.L C.G β s.toks h s.heap) (Fm : Frm C.L C.G N β s.toks m A₀ s.heap)
    (k : ∀ y β1 H1 T1, s.toks ≤ T1 → Ext β s.heap β1 H1 → Gd C.w C.L C.G β1 T1 h1 H1 → VR C.L β1 T1 (.str l) y → wpAny (model C.prog C.w) A (spliced ((as.back N).map fun e => (false, eval e env))) (fun xs s' => wpAny (model C.prog C.w) A (call (.builtin id) ([y] ++ xs)) Q E s') E { s with heap := H1, toks := T1 }) :
    GE C N env A Q E s (ME.meth n x ap as p) := by
  refine wpAny_Call_method (T := "str") (id := id) (base_plain okc) (by rw [trees, show backToKw p (keywordEach [] env) = [] from rfl]; simp [okl, len_back]) okp F.plainAttrs_str slot ty ?_
  refine ih x N sc env A₀ A m h h1 _ okx V₀ hA e1 s β _ E G Fm fun ya β1 H1 T1 t1 x1 g1 r1 => ?_
  have hT : Shared.TypeIs { s with heap := H1, toks := T1 } ya "str" := by obtain ⟨t, rfl, _⟩ := r1; exact typeIs_str _ _ _
  exact ⟨hT, fun b hb => (by obtain ⟨t, rfl, _⟩ := r1; cases hb), withB (k ya β1 H1 T1 t1 x1 g1 r1)⟩

theorem ev_meth {n : Mt} {x : ME} {ap p : Pos} {as : MEs} (ok0 : C.Ok) (ih : SEv C S d) (V₀ : EnvOk C N sc env A₀) (hA : AOk A d) (hev : ∀ (c : C0) (p : Pos) (m : M) (h : Hp) r, S.ev (.cst c p) m h = some r → r = (c.val, h)) (ok : ME.ok N sc (.meth n x ap as p) = true) (e : stepE C.X S (.meth n x ap as p) m h = some (v, h')) (G : Gd C.w C.L C.G β s.toks h s.heap) (Fm : Frm C.L C.G N β s.toks m A₀ s.heap) (pst : Pst C s β h' v Q) :
    GE C N env A Q E s (ME.meth n x ap as p) := by
  replace ok := (show (_ && _) = true from ok)
  simp only [Bool.and_eq_true, decide_eq_true_eq] at ok
  obtain ⟨⟨⟨⟨⟨okx, oka⟩, okp⟩, okr⟩, okl⟩, okc⟩ := ok
  obtain ⟨⟨a, h1⟩, e1, e2⟩ := bind_some e
  have hpre : preM C.X h1 n a = true := by
    cases hp : preM C.X h1 n a with
    | true => rfl
    | false =>
      exfalso
      replace e2 := (show (if preM C.X h1 n a = false then none else _) = some (v, h') from e2)
      rw [if_pos hp] at e2
      cases e2
  replace e2 := (show (if preM C.X h1 n a = false then none else (evs S as m h1).bind fun (vs, h) => meth C.X n a vs h) = some (v, h') from e2)
  rw [if_neg (by rw [hpre]; exact Bool.noConfusion)] at e2
  obtain ⟨⟨vs, h2⟩, e3, e4⟩ := bind_some e2
  cases n with
  | replace =>
    obtain ⟨l, y0, z0, rfl, rfl, hcond, rfl, rfl⟩ := meth_rep e4
    obtain ⟨y, py, z, pz, rfl⟩ := repArgs_inv okr
    · obtain ⟨⟨v1, h3⟩, e5, e6⟩ := bind_some e3
      obtain ⟨⟨vs', h4⟩, e7, e8⟩ := bind_some e6
      obtain ⟨⟨v2, h5⟩, e9, e10⟩ := bind_some e7
      cases hev _ _ _ _ _ e5
      cases hev _ _ _ _ _ e9
      cases e10
      cases e8
      refine on_str ih V₀ hA okx okp okl okc F.slot_str_replace F.type_str_replace e1 G Fm fun ya β1 H1 T1 t1 x1 g1 r1 => ?_
      refine spliced_cons (Constant_str (spliced_cons (Constant_str (spliced_nil ?_))))
      have r2 : VR C.L β1 (T1 + 1 + 1) (.str l) ya := r1.mono (Pre.refl _) (Nat.le_trans (Nat.le_succ _) (Nat.le_succ _))
      exact rep_sound (s := { s with heap := H1, toks := T1 + 1 + 1 }) ok0 (g1.toks (Nat.le_trans (Nat.le_succ _) (Nat.le_succ _))) r2 (u := T1) (v' := T1 + 1) g1.pos (Nat.succ_pos _) (Nat.ne_of_lt (Nat.lt_succ_self _)) hcond.1 hcond.2 (pst.step (Nat.le_trans t1 (Nat.le_trans (Nat.le_succ _) (Nat.le_succ _))) x1)
  | join =>
    obtain ⟨k, us, xs, rfl, rfl, hk, hx, hl, rfl, rfl⟩ := meth_join e4
    refine on_str ih V₀ hA okx okp okl okc F.slot_str_join F.type_str_join e1 G Fm fun ya β1 H1 T1 t1 x1 g1 r1 => ?_
    refine args_sound ih V₀ hA as h1 _ _ oka e3 { s with heap := H1, toks := T1 } β1 _ E g1 (Fm.ext x1 t1) fun xs' β2 H2 T2 t2 x2 g2 r2 => ?_
    obtain ⟨b, rfl, rb⟩ := r2.one
    obtain ⟨t, rfl, _⟩ := r1
    exact join_sound (s := { s with heap := H2, toks := T2 }) g2 hk hx hl rb ((pst.step t1 x1).step t2 x2)
  | get =>
    obtain ⟨k, u, rep, ep, es, rfl, ho, rfl, rfl⟩ := meth_get e4
    refine wpAny_Call_method (T := "dict") (id := "dict.get") (base_plain okc) (by rw [trees, show backToKw p (keywordEach [] env) = [] from rfl]; simp [okl, len_back]) okp F.plainAttrs_dict F.slot_dict_get F.type_dict_get ?_
    refine ih x N sc env A₀ A m h h1 _ okx V₀ hA e1 s β _ E G Fm fun ya β1 H1 T1 t1 x1 g1 r1 => ?_
    obtain ⟨ad, rfl, hdd⟩ : ∃ ad, ya = .ref ad ∧ ∃ ob, H1.get? ad = some ob ∧ ob.cls = .type "dict" ∧ ob.dict = none := by
      have hp' : isD C.X h1 a = true := by simpa [preM] using hpre
      unfold isD at hp'
      split at hp'
      · rename_i r9 e9 s9 ho9
        obtain ⟨ad, ob, rfl, q, z, _⟩ := obj_at ok0 g1 ho9 r1
        obtain ⟨ents, rfl, _⟩ := z
        exact ⟨ad, rfl, _, q, rfl, rfl⟩
      · cases hp'
    refine ⟨?_, ?_, withB ?_⟩
    · obtain ⟨ob, h2, h3, _⟩ := hdd
      exact ⟨ob, h2, h3⟩
    · rintro b hb
      cases hb
      obtain ⟨ob, h2, _, h4⟩ := hdd
      exact ⟨ob, h2, h4⟩
    refine args_sound ih V₀ hA as h1 _ _ oka e3 { s with heap := H1, toks := T1 } β1 _ E g1 (Fm.ext x1 t1) fun xs' β2 H2 T2 t2 x2 g2 r2 => ?_
    obtain ⟨kv, y, rfl, rk, ry⟩ := r2.two
    obtain ⟨a', ob, e9, q, z, lo⟩ := obj_at ok0 g2 ho (r1.mono x2.pre t2)
    cases e9
    obtain ⟨kvs, hd, al⟩ := OR.isDictAt (prog := C.prog) q z
    have hd' : H2.DictOf (strKind C.prog C.w) ad kvs := let ⟨o, es', h1, h2, h3, h4, h5, h6⟩ := hd; ⟨o, es', _, h1, h2, h3, h4, h5, h6⟩
    obtain ⟨t, rfl, _⟩ := rk
    refine call_meetsIn F.slot_dict_get hd'.typeIs F.entry_dict_get (F.args_dict_get_3 _ _ _) (meets_dict_get_default (strKind C.prog C.w) (k := (⟨k.toArray⟩ : Str)) ad (beq_self_eq_true _) (lo fun _ q => nomatch q) y) ⟨_, hd'.mapOf, ?_⟩
    exact ((pst.step t1 x1).step t2 x2).same (s := { s with heap := H2, toks := T2 }) g2 (Nat.le_succ _) (get_rel (al.mono fun _ _ q => ⟨q.1, q.2.mono (Pre.refl _) (Nat.le_succ _)⟩) (ry.mono (Pre.refl _) (Nat.le_succ _)))
end
end Mine

end

section
open PySem PySem.Calls PyProof.Rows PySem.W
namespace Mine
section
variable {C : Cx} {N : Nm} {sc : Scope} {env : Env} {A₀ : Pf} {A : Around} {d : Nat} {m : M} {h h' : Hp} {v : V} {s : Shared} {β : List Addr} {Q : Value → Shared → Prop} {E : Value → Shared → Prop} {S : Sm}

theorem bname {n : Bi} {p : Pos} {Q : Value → Shared → Prop} (ok0 : C.Ok) (V₀ : EnvOk C N sc env A₀) (ok : (sc.names.lookup (Str.ofString n.name) == some .globalImplicit) = true) (G : Gd C.w C.L C.G β s.toks h s.heap) (k : Q n.value s) :
    wpAny (model C.prog C.w) A (eval (.Name (Str.ofString n.name) p) env) Q E s := by
  obtain ⟨b1, b2⟩ := ok0.bi n
  refine Name_function_global (by rw [V₀.scp]; exact V₀.kind) (by unfold Env.kindOf; rw [V₀.scp]; exact beq_iff_eq.mp ok)
    (loadGlobal_builtin (mg := C.mg) (mb := C.mb) (by rw [V₀.glo]; exact ok0.g.keeps G.base) b1 (by rw [V₀.blt]; exact ok0.b.keeps G.base) b2 k) (by cases n <;> decide +kernel)

theorem one_arg {x : V} {xs : List Value} {T : Nat} (r : All2 (VR C.L β T) [x] xs) : ∃ y, xs = [y] ∧ VR C.L β T x y := by
  exact r.one
theorem lenv_inv {X : Hp} {i : Int} (e : lenv X h v = some i) : (∃ l, v = .str l ∧ i = (l.length : Nat)) ∨ ∃ xs, obj X h v = some (.list xs) ∧ i = (xs.length : Nat) := by
  cases v with
  | str l => cases e; exact .inl ⟨l, rfl, rfl⟩
  | ref k =>
    obtain ⟨o, e1, e2⟩ := bind_some (show ((obj X h (.ref k)).bind fun o => _) = some i from e)
    cases o with
    | list xs => cases e2; exact .inr ⟨xs, e1, rfl⟩
    | _ => cases e2
  | ext k =>
    obtain ⟨o, e1, e2⟩ := bind_some (show ((obj X h (.ext k)).bind fun o => _) = some i from e)
    cases o with
    | list xs => cases e2; exact .inr ⟨xs, e1, rfl⟩
    | _ => cases e2
  | _ => cases e
theorem bcall_inv {X : Hp} {n : Bi} {vs : List V} (e : bcall X n vs h = some (v, h')) : h' = h ∧ ((∃ u i, n = .len ∧ vs = [u] ∧ lenv X h u = some i ∧ v = .int i) ∨ (∃ i, n = .abs ∧ vs = [.int i] ∧ v = .int i.natAbs) ∨ ∃ i j, n = .min ∧ vs = [.int i, .int j] ∧ v = .int (min i j)) := by
  unfold bcall at e
  split at e
  · rename_i u
    cases n with
    | len =>
      obtain ⟨i, e1, e2⟩ := map_some e
      cases e2
      exact ⟨rfl, .inl ⟨_, _, rfl, rfl, e1, rfl⟩⟩
    | abs =>
      dsimp only at e
      split at e
      · cases e; exact ⟨rfl, .inr (.inl ⟨_, rfl, rfl, rfl⟩)⟩
      · cases e
    | _ => cases e
  · cases n with
    | min => cases e; exact ⟨rfl, .inr (.inr ⟨_, _, rfl, rfl, rfl⟩)⟩
    | _ => cases e
  · cases e
theorem bcall_sound (ok0 : C.Ok) (hA : A.handled = none) {n : Bi} {vs : List V} {xs : List Value} (G : Gd C.w C.L C.G β s.toks h s.heap) (e : bcall C.X n vs h = some (v, h')) (r : All2 (VR C.L β s.toks) vs xs) (pst : Pst C s β h' v Q) :
    ∃ id, n.value = .builtin id ∧ wpAny (model C.prog C.w) A (call (.builtin id) xs) Q E s := by
  obtain ⟨rfl, ⟨u, i, rfl, rfl, e1, rfl⟩ | ⟨i, rfl, rfl, rfl⟩ | ⟨i, j, rfl, rfl, rfl⟩⟩ := bcall_inv e
  · obtain ⟨x, rfl, r0⟩ := one_arg r
    rcases lenv_inv e1 with ⟨l, rfl, rfl⟩ | ⟨vs, e2, rfl⟩
    · obtain ⟨t, rfl, t0, t1, tl⟩ := r0
      have hl : (⟨l.toArray⟩ : Str).length = l.length := by simp [Str.length]
      refine ⟨"len", rfl, PyProof.Rows.len_str (by rw [hl]; unfold LIM at tl; omega) ?_⟩
      rw [hl]
      exact pst.same G (Nat.le_trans (Nat.le_succ _) (Nat.le_succ _)) ⟨_, rfl⟩
    · obtain ⟨a, ob, rfl, q, z, lo⟩ := obj_at ok0 G e2 r0
      obtain ⟨items, hl, al, le⟩ := OR.isList q z
      have hs : items.size = _ := (Array.length_toList (xs := items)).symm.trans al.length.symm
      refine ⟨"len", rfl, PyProof.Rows.len_list hl (by rw [hs]; unfold LIM at le; omega) ?_⟩
      rw [hs]
      exact pst.same G (Nat.le_trans (Nat.le_succ _) (Nat.le_succ _)) ⟨_, rfl⟩
  · obtain ⟨x, rfl, r0⟩ := one_arg r
    obtain ⟨t, rfl⟩ := r0
    refine ⟨"abs", rfl, with_toks (call_abs_int fun u tk ht => ?_)⟩
    have : (if i < 0 then -i else i) = (i.natAbs : Int) := by split <;> omega
    rw [this]
    exact pst.same G ht ⟨_, rfl⟩
  · obtain ⟨x, y, rfl, r1, r2⟩ := r.two
    obtain ⟨t, rfl⟩ := r1
    obtain ⟨u, rfl⟩ := r2
    refine ⟨"min", rfl, with_toks (Flt.min_two_num hA (.int _ _) (.int _ _) fun H' tk hk ht => ?_)⟩
    refine pst _ β H' tk ht (Ext.grow hk) ((G.toks ht).grow hk) ?_
    show ∃ t, _ = Value.int (min i j) t
    unfold Flt.ltV
    by_cases hij : j < i
    · exact ⟨u, by simp [hij]; omega⟩
    · exact ⟨t, by simp [hij]; omega⟩

theorem ev_bcall {n : Bi} {np p : Pos} {as : MEs} (ok0 : C.Ok) (ih : SEv C S d) (V₀ : EnvOk C N sc env A₀) (hA : AOk A d) (ok : ME.ok N sc (.bcall n np as p) = true) (e : stepE C.X S (.bcall n np as p) m h = some (v, h')) (G : Gd C.w C.L C.G β s.toks h s.heap) (Fm : Frm C.L C.G N β s.toks m A₀ s.heap) (pst : Pst C s β h' v Q) :
    GE C N env A Q E s (ME.bcall n np as p) := by
  replace ok := (show (_ && _) = true from ok)
  simp only [Bool.and_eq_true] at ok
  obtain ⟨⟨vs, h1⟩, e1, e2⟩ := bind_some e
  show wpAny _ _ (eval (.Call (.Name (Str.ofString n.name) np) (as.back N) [] p) env) Q E s
  refine Call_ (bname ok0 V₀ ok.1 G ?_)
  obtain ⟨id, hid⟩ : ∃ id, n.value = .builtin id := by
    obtain ⟨_, ⟨_, _, rfl, _⟩ | ⟨_, rfl, _⟩ | ⟨_, _, rfl, _⟩⟩ := bcall_inv e2 <;> exact ⟨_, rfl⟩
  rw [hid]
  refine withB (args_sound ih V₀ hA as h h1 vs ok.2 e1 s β _ E G Fm fun xs β1 H1 T1 t1 x1 g1 r1 => ?_)
  obtain ⟨id', hid', hw⟩ := bcall_sound (s := { s with heap := H1, toks := T1 }) (A := A) (E := E) ok0 hA.hd g1 e2 r1 (pst.step t1 x1)
  rw [hid] at hid'
  cases hid'
  exact hw

theorem ints_rel {L : Pl} {T : Nat} {items : Array Value} {n : Nat} (hi : ItemsOf (fun i v => ∃ t, v = Value.int (0 + (i : Int) * 1) t) items n) : All2 (VR L β T) ((List.range n).map fun (i : Nat) => V.int (i : Int)) items.toList := by
  obtain ⟨hs, hp⟩ := hi
  have key : ∀ (k : Nat) (l : List Value) (b : Nat), l.length = k → (∀ j v, l[j]? = some v → ∃ t, v = Value.int ((b + j : Nat) : Int) t) → All2 (VR L β T) ((List.range' b k).map fun (i : Nat) => V.int (i : Int)) l := by
    intro k
    induction k with
    | zero => intro l b hl _; cases l with
      | nil => trivial
      | cons => simp at hl
    | succ k ih =>
      intro l b hl h
      cases l with
      | nil => simp at hl
      | cons x l =>
        rw [List.range'_succ, List.map_cons]
        refine ⟨(show ∃ t, x = Value.int (b : Int) t by simpa using h 0 x rfl), ih l (b + 1) (by simpa using hl) fun j v hj => ?_⟩
        have := h (j + 1) v (by simpa using hj)
        rwa [show b + (j + 1) = b + 1 + j by omega] at this
  rw [List.range_eq_range']
  refine key n _ 0 (by rw [Array.length_toList]; exact hs) fun j v hj => ?_
  obtain ⟨t, rfl⟩ := hp j v (by rwa [Array.getElem?_toList] at hj)
  exact ⟨t, by rw [Int.mul_one, Int.zero_add, Nat.zero_add]⟩
theorem ev_lrange {e : ME} {np rp ap p : Pos} (ok0 : C.Ok) (ih : SEv C S d) (V₀ : EnvOk C N sc env A₀) (hA : AOk A d) (ok : ME.ok N sc (.lrange np rp e ap p) = true) (hs : stepE C.X S (.lrange np rp e ap p) m h = some (v, h')) (G : Gd C.w C.L C.G β s.toks h s.heap) (Fm : Frm C.L C.G N β s.toks m A₀ s.heap) (pst : Pst C s β h' v Q) :
    GE C N env A Q E s (ME.lrange np rp e ap p) := by
  replace ok := (show (_ && _) = true from ok)
  simp only [Bool.and_eq_true] at ok
  obtain ⟨⟨a, h1⟩, e1, hs⟩ := bind_some hs
  obtain ⟨n, rfl, hn, hs⟩ : ∃ n, a = .int n ∧ n.natAbs ≤ LIM ∧ some (V.ref h1.length, h1 ++ [O.list ((List.range n.toNat).map fun (i : Nat) => .int (i : Int))]) = some (v, h') := by
    cases a <;> try (exfalso; cases hs)
    rename_i n
    by_cases hn : n.natAbs ≤ LIM
    · exact ⟨n, rfl, hn, by simpa [hn] using hs⟩
    · exfalso; simp [hn] at hs
  cases hs
  show wpAny _ _ (eval (.Call (.Name (Str.ofString Bi.list.name) np) ((MEs.cons (.bcall .range rp (.cons e .nil) ap) .nil).back N) [] p) env) Q E s
  refine Call_ (bname ok0 V₀ ok.1.2 G ?_)
  rw [trees]
  refine PyProof.Rows.callWith_type rfl (evalArgs_plain (spliced_cons ?_))
  show wpAny _ _ (eval (.Call (.Name (Str.ofString Bi.range.name) rp) ((MEs.cons e .nil).back N) [] ap) env) _ E s
  refine Call_ (bname ok0 V₀ ok.2 G ?_)
  rw [trees]
  refine PyProof.Rows.callWith_type rfl (evalArgs_plain (spliced_cons ?_))
  refine ih e N sc env A₀ A m h h1 (.int n) ok.1.1 V₀ hA e1 s β _ E G Fm fun x β1 H1 T1 t1 x1 g1 r1 => ?_
  obtain ⟨t, rfl⟩ := r1
  refine spliced_nil ?_
  refine call_range_1 ?_
  refine spliced_nil ?_
  have hsz : Builtin.Range.rangeSize 0 n 1 = (n.toNat : Int) := by rw [rangeSize_one]; split <;> omega
  have hk := get?_push_keep (H := H1) { cls := .type "range", data := .fields #[.int 0 T1, .int n t, .int 1 (T1 + 1)] }
  refine with_toks (call_list_range hA.hd (IsRange.new ..) (small_one (by decide) (by decide) (by unfold LIM at hn; omega) (by unfold LIM at hn; omega)) hsz (by unfold LIM at hn; omega) fun H2 tk acc c hk2 ho hi tt => ?_)
  have g2 := ((g1.toks (Nat.le_trans (Nat.le_trans (Nat.le_succ _) (Nat.le_succ _)) tt)).grow hk)
  have al := ints_rel (L := C.L) (β := β1 ++ [(H1.push { cls := .type "range", data := .fields #[.int 0 T1, .int n t, .int 1 (T1 + 1)] }).objs.size]) (T := tk) hi
  have z := g2.alloc' hk2 (o := .list ((List.range n.toNat).map fun (i : Nat) => .int (i : Int))) ho ⟨⟨_, _, _, _, rfl, al, by rw [List.length_map, List.length_range]; unfold LIM at hn ⊢; omega⟩, rfl⟩
  exact pst _ _ H2 tk (Nat.le_trans t1 (Nat.le_trans (Nat.le_trans (Nat.le_succ _) (Nat.le_succ _)) tt)) ((x1.trans (Ext.grow hk)).trans z.2) z.1 (new_ref g2)

theorem ev_call {f : ME} {p : Pos} {as : MEs} (ok0 : C.Ok) (ih : SEv C S d) (ic : SCl C S d) (V₀ : EnvOk C N sc env A₀) (hA : AOk A d) (ok : ME.ok N sc (.call f as p) = true) (e : stepE C.X S (.call f as p) m h = some (v, h')) (G : Gd C.w C.L C.G β s.toks h s.heap) (Fm : Frm C.L C.G N β s.toks m A₀ s.heap) (pst : Pst C s β h' v Q) :
    GE C N env A Q E s (ME.call f as p) := by
  replace ok := (show (_ && _) = true from ok)
  simp only [Bool.and_eq_true] at ok
  obtain ⟨⟨okf, oka⟩, okn⟩ := ok
  obtain ⟨⟨fv, h1⟩, e1, e2⟩ := bind_some e
  obtain ⟨⟨vs, h2⟩, e3, e4⟩ := bind_some e2
  simp only at e4
  split at e4
  · rename_i g
    have he : eval (.Call (f.back N) (as.back N) [] p) env = (do callWith p (← eval (f.back N) env) [] (backTo p (starEach (as.back N) env)) (backToKw p (keywordEach [] env))) := by
      cases f <;> first | rfl | (exact absurd okn Bool.false_ne_true)
    show wpAny _ _ (eval (.Call (f.back N) (as.back N) [] p) env) Q E s
    refine Call_ ?_ he
    refine ih f N sc env A₀ A m h h1 _ okf V₀ hA e1 s β _ E G Fm fun y β1 H1 T1 t1 x1 g1 r1 => ?_
    obtain ⟨a, ha, rfl⟩ := r1
    obtain ⟨_, o, fd, ho, hd⟩ := ok0.fn g a ha
    have args := fun Q E k => args_sound ih V₀ hA as h1 h2 vs oka e3 { s with heap := H1, toks := T1 } β1 Q E g1 (Fm.ext x1 t1) k
    have k : PstL C { s with heap := H1, toks := T1 } β1 h2 vs (fun xs s₁ => (s₁.heap.get? a = some o ∧ o.data = .func fd) ∧ wpAny (model C.prog C.w) A (call (.ref a) xs) Q E s₁) := by
      intro xs β2 H2 T2 t2 x2 g2 r2
      refine ⟨⟨g2.base _ _ ho, hd⟩, wpAny_call ?_⟩
      refine ic g vs h2 h' v A hA e4 { s with heap := H2, toks := T2 } β2 a xs _ ha r2 g2 fun x β3 H3 T3 t3 x3 g3 r3 => ?_
      exact pst x β3 H3 T3 (Nat.le_trans t1 (Nat.le_trans t2 t3)) (x1.trans (x2.trans x3)) g3 r3
    rw [trees]
    refine callWith_function (o := o) (fd := fd) ?_
    cases as with
    | nil =>
      refine PySem.evalArgs_none ?_
      cases e3
      exact k [] β1 H1 T1 (Nat.le_refl _) (Ext.refl _ _) g1 trivial
    | cons x r => exact evalArgs_plain (args _ _ k)
  · cases e4
end
end Mine

end

section
open PySem PySem.Calls PyProof.Rows PySem.W
namespace Mine
/-- an iterator object that gives vs, one by one -/
structure Itr (C : Cx) (A : Around) (I : Addr) (St : Nat → Obj → Prop) (vs : List V) (chk : Hp → Bool) (β₀ : List Addr) : Prop where
  item : ∀ (i : Nat) (v : V) (s : Shared) (β : List Addr) (h : Hp) (o : Obj) (Q : Option Value → Shared → Prop) (E : Value → Shared → Prop), vs[i]? = some v → Pre β₀ β → Gd C.w C.L C.G β s.toks h s.heap → chk h = true → s.heap.get? I = some o → St i o →
    (∀ x H' T' o', s.toks ≤ T' → H'.get? I = some o' → St (i + 1) o' → (∀ b q, b ≠ I → s.heap.get? b = some q → H'.get? b = some q) → VR C.L β T' v x → Q (some x) { s with heap := H', toks := T' }) → wpAny (model C.prog C.w) A (pyNext (.ref I)) Q E s
  done : ∀ (s : Shared) (β : List Addr) (h : Hp) (o : Obj) (Q : Option Value → Shared → Prop) (E : Value → Shared → Prop), Pre β₀ β → Gd C.w C.L C.G β s.toks h s.heap → chk h = true → s.heap.get? I = some o → St vs.length o →
    (∀ H' T', s.toks ≤ T' → (∀ b q, b ≠ I → s.heap.get? b = some q → H'.get? b = some q) → Q none { s with heap := H', toks := T' }) → wpAny (model C.prog C.w) A (pyNext (.ref I)) Q E s
  self : ∀ (s : Shared) (i : Nat) (o : Obj) (Q : Value → Shared → Prop) (E : Value → Shared → Prop), s.heap.get? I = some o → St i o → Q (.ref I) s → wpAny (model C.prog C.w) A (pyIter (.ref I)) Q E s

section
variable {C : Cx} {N : Nm} {sc : Scope} {env : Env} {A₀ : Pf} {A : Around} {d : Nat} {m m' : M} {h h' : Hp} {f : Fl} {s : Shared} {β : List Addr} {E : Value → Shared → Prop} {S : Sm}

theorem Frm.but {T : Nat} {H H' : Heap} {I : Addr} (Fm : Frm C.L C.G N β T m A₀ H) (hne : ¬ A₀.own I) (hk : ∀ b q, b ≠ I → H.get? b = some q → H'.get? b = some q) : Frm C.L C.G N β T m A₀ H' :=
  Fm.keep (Pre.refl _) (Nat.le_refl _) fun a o ha e => ⟨hk a o (fun z => hne (z ▸ ha)) e, Fm.out a ha⟩
theorem Frm.toks {T T' : Nat} {H : Heap} (Fm : Frm C.L C.G N β T m A₀ H) (ht : T ≤ T') : Frm C.L C.G N β T' m A₀ H := Fm.ext (Ext.refl _ _) ht

/-- the iterators at hand -/
noncomputable def okIter (o : Obj) : Prop := ∃ vs, o.data = .fields vs
theorem All2.at {α β : Type} {R : α → β → Prop} {l : List α} {r : Array β} {i : Nat} {a : α} (h : All2 R l r.toList) (e : l[i]? = some a) : ∃ b, r[i]? = some b ∧ R a b := by
  obtain ⟨b, hb, hr⟩ := All2.get h e
  exact ⟨b, by simpa using hb, hr⟩

theorem itr_list {I l : Addr} {vs : List V} {chk : Hp → Bool} {β₀ : List Addr} (hA : A.handled = none)
    (hl : ∀ (T : Nat) (β : List Addr) (h : Hp) (H : Heap), Pre β₀ β → Gd C.w C.L C.G β T h H → chk h = true → ∃ items, H.IsList l items ∧ All2 (VR C.L β T) vs items.toList) :
    Itr C A I (fun i o => o.cls = .type "list_iterator" ∧ o.data = .fields #[.ref l, .int i 0]) vs chk β₀ where
  item := by
    intro i v s β h o Q E hv hp g hc ho hst k
    obtain ⟨items, q1, q2⟩ := hl _ _ _ _ hp g hc
    obtain ⟨x, hx, rx⟩ := All2.at q2 hv
    refine wpAny_pyNext_list_item (it := I) (l := l) (i := i) ⟨o, ho, hst⟩ q1 hx fun H' hit hs => ?_
    obtain ⟨o', ho', hst'⟩ := hit
    exact k x H' s.toks o' (Nat.le_refl _) ho' hst' (fun b q n e => (hs.2 b n).trans e) rx
  done := by
    intro s β h o Q E hp g hc ho hst k
    obtain ⟨items, q1, q2⟩ := hl _ _ _ _ hp g hc
    have hn : items[vs.length]? = none := Array.getElem?_eq_none (by simpa using Nat.le_of_eq q2.length.symm)
    refine wpAny_pyNext_list_end (it := I) (l := l) (i := vs.length) hA ⟨o, ho, hst⟩ q1 hn fun H' hs => ?_
    exact k H' s.toks (Nat.le_refl _) fun b q n e => hs b q n e
  self := fun s i o Q E ho hst q => wpAny_pyIter_listiter ⟨o, ho, hst⟩ q

theorem itr_range {I : Addr} {n : Nat} {β₀ : List Addr} (hA : A.handled = none) :
    Itr C A I (fun i o => o = { cls := .type "range_iterator", dict := none, data := .fields #[rawInt (i : Int), rawInt ((n : Int) - i), rawInt 1], slots := #[] }) ((List.range n).map fun (i : Nat) => V.int (i : Int)) (fun _ => true) β₀ where
  item := by
    intro i v s β h o Q E hv hp g hc ho hst k
    subst hst
    rw [List.getElem?_map] at hv
    obtain ⟨j, hj, rfl⟩ := Option.map_eq_some_iff.mp hv
    have hlt : i < n := by
      rcases Nat.lt_or_ge i n with q | q
      · exact q
      · rw [List.getElem?_eq_none (by simpa using q)] at hj; cases hj
    rw [List.getElem?_range hlt] at hj
    cases hj
    refine wpAny_pyNext_range_item (it := I) (x := (i : Int)) (left := (n : Int) - i) (step := 1) ho (by omega) fun H' hit hs => ?_
    have e1 : (i : Int) + 1 = ((i + 1 : Nat) : Int) := by omega
    have e2 : (n : Int) - i - 1 = (n : Int) - ((i + 1 : Nat) : Int) := by omega
    rw [e1, e2] at hit
    exact k (.int i s.toks) H' (s.toks + 1) _ (Nat.le_succ _) hit rfl (fun b q n e => (hs.2 b n).trans e) ⟨_, rfl⟩
  done := by
    intro s β h o Q E hp g hc ho hst k
    subst hst
    refine wpAny_pyNext_range_end (it := I) hA ho (by simp) fun H' hs => ?_
    exact k H' s.toks (Nat.le_refl _) fun b q n e => hs b q n e
  self := fun s i o Q E ho hst q => by subst hst; exact wpAny_pyIter_rangeiter ho q

theorem itr_str {I : Addr} {l : List Nat} {t : Tok} {β₀ : List Addr} (ty : String) (hty : ty = "str_ascii_iterator" ∨ ty = "str_iterator") (hA : A.handled = none) :
    Itr C A I (fun i o => o.cls = .type ty ∧ o.data = .fields #[.str ⟨l.toArray⟩ t, .int i 0]) (l.map fun c => V.str [c]) (fun _ => true) β₀ where
  item := by
    intro i v s β h o Q E hv hp g hc ho hst k
    rw [List.getElem?_map] at hv
    obtain ⟨c, hj, rfl⟩ := Option.map_eq_some_iff.mp hv
    have hx : (⟨l.toArray⟩ : Str).cps[i]? = some c := by simpa using hj
    have hk : ∀ (H' : Heap), H'.IsStrIter I ty ⟨l.toArray⟩ t (i + 1) → Heap.SameBut I s.heap H' → Q (some (.str ⟨#[c]⟩ s.toks)) { s with heap := H', toks := s.toks + 1 } := by
      intro H' hit hs
      obtain ⟨o', ho', hst'⟩ := hit
      exact k _ H' (s.toks + 1) o' (Nat.le_succ _) ho' hst' (fun b q n e => (hs.2 b n).trans e) ⟨s.toks, rfl, g.pos, Nat.lt_succ_self _, by unfold LIM; simp⟩
    rcases hty with rfl | rfl
    · exact wpAny_pyNext_ascii_item ⟨o, ho, hst⟩ hx hk
    · exact wpAny_pyNext_wide_item ⟨o, ho, hst⟩ hx hk
  done := by
    intro s β h o Q E hp g hc ho hst k
    rw [List.length_map] at hst
    have hx : (⟨l.toArray⟩ : Str).cps[l.length]? = none := by simp
    rcases hty with rfl | rfl
    · exact wpAny_pyNext_ascii_end hA ⟨o, ho, hst⟩ hx fun H' hs => k H' s.toks (Nat.le_refl _) fun b q n e => hs b q n e
    · exact wpAny_pyNext_wide_end hA ⟨o, ho, hst⟩ hx fun H' hs => k H' s.toks (Nat.le_refl _) fun b q n e => hs b q n e
  self := by
    intro s i o Q E ho hst q
    rcases hty with rfl | rfl
    · exact wpAny_pyIter_striter_ascii ⟨o, ho, hst⟩ q
    · exact wpAny_pyIter_striter_wide ⟨o, ho, hst⟩ q
/-- an entry list as the kit's pairs -/
theorem dictAt_of {T : Nat} {H : Heap} {a : Addr} {ents : Array DictEntry} {ep : Nat} {rep : Bool} {es : List (List Nat × V)} (hob : H.get? a = some ⟨.type "dict", none, .dict ents ep, #[]⟩) (al : All2 (ER C.w C.L β T rep) es ents.toList) (nd : (es.map (·.1)).Nodup) :
    ∃ kvs : List (Str × Value), H.DictAt (strKind C.prog C.w) a kvs ep ∧ kvs.length = es.length := by
  have key : ∀ {es : List (List Nat × V)} {l : List DictEntry}, All2 (ER C.w C.L β T rep) es l → ∃ kvs : List (Str × Value), Pairs (strKind C.prog C.w) l kvs ∧ kvs.map (·.1) = es.map fun e => (⟨e.1.toArray⟩ : Str) := by
    intro es
    induction es with
    | nil => intro l al; cases l with | nil => exact ⟨[], .nil, rfl⟩ | cons => exact al.elim
    | cons e es ih =>
      intro l al
      cases l with
      | nil => exact al.elim
      | cons q l =>
        obtain ⟨kvs, h1, h2⟩ := ih al.2
        obtain ⟨t, h3, _⟩ := al.1
        refine ⟨(⟨e.1.toArray⟩, q.val) :: kvs, .cons (by rw [h3]; exact beq_self_eq_true _) rfl h1, by simp [h2]⟩
  obtain ⟨kvs, h1, h2⟩ := key al
  refine ⟨kvs, ⟨_, ents, hob, ⟨rfl, rfl, rfl⟩, rfl, fun e he => keys_dict al e (Array.mem_toList_iff.mpr he), h1, ?_⟩, by simpa using congrArg List.length h2⟩
  rw [h2]
  have : (es.map fun e => (⟨e.1.toArray⟩ : Str)) = (es.map (·.1)).map fun k => (⟨k.toArray⟩ : Str) := by simp
  rw [this]
  refine List.Pairwise.map _ (fun a b hab e => hab ?_) nd
  have := congrArg (fun x : Str => x.cps.toList) e
  simpa using this

theorem notSet {N : Nm} {x : Value} : ∀ e : ME, foldedSetIterable (e.back N) env x = pure x := by
  intro e
  cases e <;> first | rfl | (rename_i sp ks vs p; cases sp <;> rfl)

theorem Gd.notIn {T T' : Nat} {H0 H1 : Heap} {β1 : List Addr} (x : Ext β H0 β1 H1) (g1 : Gd C.w C.L C.G β1 T h H1) : H0.get? H1.objs.size = none := by
  cases e : H0.get? H1.objs.size with
  | none => rfl
  | some o =>
    by_cases hm : H1.objs.size ∈ β
    · exact absurd (x.pre.mem hm) g1.fresh.1
    · exact absurd (Heap.lt_size (x.keep _ o hm e).1) (Nat.lt_irrefl _)

/-- what an iterator's maker hands on -/
noncomputable def IterK (C : Cx) (N : Nm) (A₀ : Pf) (A : Around) (s : Shared) (β : List Addr) (m : M) (h' : Hp) (vs : List V) (chk : Hp → Bool) (Q : Value → Shared → Prop) : Prop :=
  ∀ I o St β1 H1 T1, s.toks ≤ T1 → I ∉ β1 → C.G.get? I = none → ¬ A₀.own I → s.heap.get? I = none → Ext β s.heap β1 H1 → Gd C.w C.L C.G β1 T1 h' H1 → Frm C.L C.G N β1 T1 m A₀ H1 → H1.get? I = some o → St 0 o → Itr C A I St vs chk β1 → (∀ i o, St i o → okIter o) → Q (.ref I) { s with heap := H1, toks := T1 }
theorem iter_fin {vs : List V} {chk : Hp → Bool} {Q : Value → Shared → Prop} (Fm : Frm C.L C.G N β s.toks m A₀ s.heap) (k : IterK C N A₀ A s β m h' vs chk Q) (T2 : Nat) (H2 : Heap) (β1 : List Addr) (t2 : s.toks ≤ T2) (x2 : Ext β s.heap β1 H2) (g2 : Gd C.w C.L C.G β1 T2 h' H2) (ob : Obj) (St : Nat → Obj → Prop) (hf : ob.isFreed = false) (h0 : St 0 ob) (hit : Itr C A H2.objs.size St vs chk β1) (hSt : ∀ i o, St i o → okIter o) :
    Q (.ref H2.objs.size) { s with heap := H2.push ob, toks := T2 } := by
  have f2 := Fm.ext x2 t2
  have x3 := x2.trans (Ext.grow (β := β1) (get?_push_keep ob))
  refine k _ ob St β1 _ T2 t2 g2.fresh.1 g2.fresh.2 ?_ (Gd.notIn (T' := 0) x2 g2) x3 (g2.grow (get?_push_keep ob)) (Fm.ext x3 t2) (Heap.get?_push_size _ hf) h0 hit hSt
  intro ho
  obtain ⟨o, ho⟩ := f2.at ho
  exact absurd (Heap.lt_size ho) (Nat.lt_irrefl _)
theorem iter_plain {it : ME} {vs : List V} {chk : Hp → Bool} {Q : Value → Shared → Prop} (ok0 : C.Ok) (ih : SEv C S d) (V₀ : EnvOk C N sc env A₀) (hA : AOk A d) (ok : it.ok N sc = true) (hs : (S.ev it m h).bind (fun (a, h) => iterV C.X h a) = some (vs, chk, h')) (G : Gd C.w C.L C.G β s.toks h s.heap) (Fm : Frm C.L C.G N β s.toks m A₀ s.heap)
    (k : IterK C N A₀ A s β m h' vs chk Q) : wpAny (model C.prog C.w) A (eval (it.back N) env) (fun x s₁ => wpAny (model C.prog C.w) A (pyIter x) Q E s₁) E s := by
  obtain ⟨⟨a, h1⟩, e1, hs⟩ := bind_some hs
  refine ih it N sc env A₀ A m h h1 a ok V₀ hA e1 s β _ E G Fm fun x β1 H1 T1 t1 x1 g1 r1 => ?_
  replace hs := (show iterV C.X h1 a = some (vs, chk, h') from hs)
  unfold iterV at hs
  split at hs
  · rename_i l
    cases hs
    obtain ⟨t, rfl, t0, t9, hl⟩ := r1
    cases ha : (⟨l.toArray⟩ : Str).cps.all (· < 128)
    · exact wpAny_pyIter_wide ha (iter_fin Fm k T1 H1 β1 t1 x1 g1 _ (fun i o => o.cls = .type "str_iterator" ∧ o.data = .fields #[.str ⟨l.toArray⟩ t, .int i 0]) rfl ⟨rfl, rfl⟩ (itr_str "str_iterator" (.inr rfl) hA.hd) fun i o hh => ⟨_, hh.2⟩)
    · exact wpAny_pyIter_ascii ha (iter_fin Fm k T1 H1 β1 t1 x1 g1 _ (fun i o => o.cls = .type "str_ascii_iterator" ∧ o.data = .fields #[.str ⟨l.toArray⟩ t, .int i 0]) rfl ⟨rfl, rfl⟩ (itr_str "str_ascii_iterator" (.inl rfl) hA.hd) fun i o hh => ⟨_, hh.2⟩)
  · rename_i j
    split at hs
    · rename_i vs' hx
      cases hs
      obtain ⟨a, ob, rfl, hob, r, _⟩ := obj_at ok0 g1 (v := .ext j) hx r1
      obtain ⟨items, q1, q2, _⟩ := OR.isList hob r
      obtain ⟨a2, ob2, ha2, hob2, r2, _⟩ := ok0.ext j _ hx
      obtain ⟨a3, ha3, e3⟩ := r1
      cases e3
      rw [ha3] at ha2
      cases ha2
      refine wpAny_pyIter_list q1 (iter_fin Fm k T1 H1 β1 t1 x1 g1 _ _ rfl ⟨rfl, rfl⟩ (itr_list (l := a) hA.hd fun T β' h'' H hp g hc => ?_) fun i o hh => ⟨_, hh.2⟩)
      obtain ⟨items, q3, q4, _⟩ := OR.isList (g.base _ _ hob2) r2
      exact ⟨items, q3, q4.mono fun _ _ => VR.mono ⟨β', rfl⟩ (Nat.zero_le _)⟩
    · cases hs
  · rename_i kk
    split at hs
    · rename_i vs' hx
      cases hs
      obtain ⟨a, ha, rfl⟩ := r1
      obtain ⟨ob, hob, r⟩ := g1.objs kk _ a hx ha
      obtain ⟨items, q1, q2, _⟩ := OR.isList hob r.1
      refine wpAny_pyIter_list q1 (iter_fin Fm k T1 H1 β1 t1 x1 g1 _ _ rfl ⟨rfl, rfl⟩ (itr_list (l := a) hA.hd fun T β' h'' H hp g hc => ?_) fun i o hh => ⟨_, hh.2⟩)
      obtain ⟨ob, hob, r⟩ := g.objs kk _ a (of_decide_eq_true hc) (hp.get ha)
      obtain ⟨items, q1, q2, _⟩ := OR.isList hob r.1
      exact ⟨items, q1, q2⟩
    · cases hs
  · cases hs
end
end Mine

end

section
open PySem PySem.Calls PyProof.Rows PySem.W
namespace Mine

/-! a block: its names, its cells -/
noncomputable def clOf (cells : List (Str × Addr)) : List (Str × NameKind) → List (Str × Addr) → List (Str × Addr)
  | [], acc => acc
  | (n, k) :: r, acc => if k == .free then clOf cells r ((n, (cells.lookup n).getD 0) :: acc) else clOf cells r acc
theorem clOf_mem {cells : List (Str × Addr)} : ∀ {names : List (Str × NameKind)} {acc : List (Str × Addr)} {n : Str} {c : Addr}, (n, c) ∈ clOf cells names acc → (n, c) ∈ acc ∨ ((n, NameKind.free) ∈ names ∧ c = (cells.lookup n).getD 0)
  | [], _, _, _, h => .inl h
  | (x, k) :: r, acc, n, c, h => by
    unfold clOf at h
    split at h
    · rename_i hk
      rcases clOf_mem h with q | ⟨q, e⟩
      · rcases List.mem_cons.mp q with q | q
        · cases q
          exact .inr ⟨by rw [beq_iff_eq.mp hk]; exact .head _, rfl⟩
        · exact .inl q
      · exact .inr ⟨.tail _ q, e⟩
    · rcases clOf_mem h with q | ⟨q, e⟩
      · exact .inl q
      · exact .inr ⟨.tail _ q, e⟩
theorem clOf_acc {cells : List (Str × Addr)} : ∀ {names : List (Str × NameKind)} {acc : List (Str × Addr)} {n : Str} {c : Addr}, (n, c) ∈ acc → (n, c) ∈ clOf cells names acc
  | [], _, _, _, h => h
  | (x, k) :: r, acc, n, c, h => by
    unfold clOf
    split
    · exact clOf_acc (.tail _ h)
    · exact clOf_acc h
theorem clOf_has {cells : List (Str × Addr)} : ∀ {names : List (Str × NameKind)} {acc : List (Str × Addr)} {n : Str}, (n, NameKind.free) ∈ names → ∃ c, (n, c) ∈ clOf cells names acc
  | (x, k) :: r, acc, n, h => by
    unfold clOf
    rcases List.mem_cons.mp h with q | q
    · cases q
      exact ⟨(cells.lookup x).getD 0, by rw [if_pos (show (NameKind.free == NameKind.free) = true from rfl)]; exact clOf_acc (.head _)⟩
    · split
      · exact clOf_has q
      · exact clOf_has q
theorem lookup_has {α : Type} : ∀ {l : List (Str × α)} {n : Str} {c : α}, (n, c) ∈ l → ∃ c', l.lookup n = some c'
  | (k, v) :: r, n, c, h => by
    rw [List.lookup_cons]
    cases hb : n == k with
    | true => exact ⟨_, rfl⟩
    | false =>
      rcases List.mem_cons.mp h with q | q
      · cases q; simp at hb
      · exact lookup_has q
theorem closure_is {scope : Scope} {env : Env} (h : ∀ n, (n, NameKind.free) ∈ scope.names → ∃ c, env.cells.lookup n = some c) : closureFor scope env = pure (clOf env.cells scope.names []) := by
  have key : ∀ (f : Str × NameKind → List (Str × Addr) → Sem (ForInStep (List (Str × Addr)))) (hf : ∀ n k cs, f (n, k) cs = if k == .free then (do let a ← cellOf env n; pure (.yield ((n, a) :: cs))) else pure (.yield cs)) (names : List (Str × NameKind)) (acc : List (Str × Addr)), (∀ n, (n, NameKind.free) ∈ names → ∃ c, env.cells.lookup n = some c) → forIn names acc f = pure (clOf env.cells names acc) := by
    intro f hf names
    induction names with
    | nil => intro acc _; rfl
    | cons x r ih =>
      intro acc h
      obtain ⟨n, k⟩ := x
      rw [List.forIn_cons, hf]
      unfold clOf
      split
      · rename_i hk
        obtain ⟨c, hc⟩ := h n (by rw [beq_iff_eq.mp hk]; exact .head _)
        have : cellOf env n = pure c := by unfold cellOf; rw [hc]
        rw [this, hc]
        exact ih _ fun n hn => h n (.tail _ hn)
      · exact ih _ fun n hn => h n (.tail _ hn)
  unfold closureFor
  show (forIn scope.names ([] : List (Str × Addr)) _ >>= fun cs => pure cs) = _
  rw [key _ (fun n k cs => by cases hk : k == NameKind.free <;> simp [hk]) _ _ h]
  rfl
theorem relab_lookup (sc scope : Scope) (x : Str) : (relab sc scope).names.lookup x = (scope.names.lookup x).map fun k => if (k == .free && sc.kind == .function && sc.names.lookup x == some .cell) then .cell else k := by
  unfold relab
  dsimp only
  induction scope.names with
  | nil => rfl
  | cons y r ih =>
    obtain ⟨n, k⟩ := y
    rw [List.map_cons, List.lookup_cons]
    show List.lookup x ((if (k == .free && sc.kind == .function && sc.names.lookup n == some .cell) = true then (n, NameKind.cell) else (n, k)) :: _) = _
    have : (if (k == .free && sc.kind == .function && sc.names.lookup n == some .cell) = true then (n, NameKind.cell) else (n, k)) = (n, if (k == .free && sc.kind == .function && sc.names.lookup n == some .cell) = true then .cell else k) := by
      split <;> rfl
    rw [this, List.lookup_cons, List.lookup_cons]
    cases hx : x == n with
    | true => rw [beq_iff_eq.mp hx]; rfl
    | false => exact ih

section
variable {C : Cx} {N : Nm} {sc : Scope} {env : Env} {A₀ : Pf} {A : Around} {d : Nat} {m : M} {h h' : Hp} {v : V} {s : Shared} {β : List Addr} {Q : Value → Shared → Prop} {E : Value → Shared → Prop} {S : Sm}

/-- what compOk says -/
structure CompS (N : Nm) (sc scope : Scope) (x : Nat) : Prop where
  lt : x < N.slots.length
  kind : scope.kind = .function
  nd : (scope.names.map (·.1)).Nodup
  nocell : ∀ y ∈ scope.names, y.2 ≠ .cell
  loc : scope.names.lookup (N.slots.getD x default) = some .local
  free : ∀ n, (n, NameKind.free) ∈ scope.names → sc.names.lookup n = some .cell
  sole : ∀ i, i < N.slots.length → (relab sc scope).names.lookup (N.slots.getD i default) = some .local → i = x
theorem compOk_inv {scope : Scope} {x : Nat} (ok : compOk N sc scope x = true) : CompS N sc scope x := by
  unfold compOk at ok
  simp only [Bool.and_eq_true, decide_eq_true_eq, beq_iff_eq, List.all_eq_true] at ok
  obtain ⟨⟨⟨⟨⟨⟨h1, h2⟩, h3⟩, h4⟩, h5⟩, h6⟩, h7⟩ := ok
  refine ⟨h1, h2, h3, fun y hy e => ?_, h5, fun n hn => ?_, fun i hi e => ?_⟩
  · have := h4 y hy; rw [e] at this; simp at this
  · have := h6 _ hn; simpa using this
  · have := h7 i (List.mem_range.mpr hi)
    rw [e] at this
    simpa using this
theorem CompS.lookup {scope : Scope} {x : Nat} (K : CompS N sc scope x) {n : Str} {k : NameKind} (h : (n, k) ∈ scope.names) : scope.names.lookup n = some k := by
  have key : ∀ {l : List (Str × NameKind)}, (l.map (·.1)).Nodup → (n, k) ∈ l → l.lookup n = some k := by
    intro l
    induction l with
    | nil => intro _ h; cases h
    | cons y r ih =>
      obtain ⟨a, b⟩ := y
      intro nd h
      rw [List.map_cons, List.nodup_cons] at nd
      rw [List.lookup_cons]
      rcases List.mem_cons.mp h with q | q
      · cases q; simp
      · have : (n == a) = false := beq_eq_false_iff_ne.mpr fun e => nd.1 (e ▸ List.mem_map.mpr ⟨_, q, rfl⟩)
        rw [this]
        exact ih nd.2 q
  exact key K.nd h

/-- the block's frame -/
noncomputable def compPf (sc scope : Scope) (cells : List (Str × Addr)) (Cc : Addr) : Pf :=
  ⟨Cc, clOf cells scope.names [], fun x => (relab sc scope).names.lookup x == some .local || (relab sc scope).names.lookup x == some .cell⟩
theorem comp_cl {scope : Scope} {x : Nat} (K : CompS N sc scope x) (V₀ : EnvOk C N sc env A₀) {n : Str} {c : Addr} (e : (clOf env.cells scope.names []).lookup n = some c) : (n, NameKind.free) ∈ scope.names ∧ A₀.cs.lookup n = some c := by
  rcases clOf_mem (mem_of_lookup e) with q | ⟨q, e2⟩
  · cases q
  · obtain ⟨c', hc'⟩ := V₀.kc n (K.free n q)
    rw [V₀.cells, hc'] at e2
    exact ⟨q, by rw [hc', e2]; rfl⟩
theorem comp_free {scope : Scope} {x : Nat} (K : CompS N sc scope x) (V₀ : EnvOk C N sc env A₀) : ∀ n, (n, NameKind.free) ∈ scope.names → ∃ c, env.cells.lookup n = some c := fun n hn => by
  rw [V₀.cells]; exact V₀.kc n (K.free n hn)
theorem comp_env {scope : Scope} {x : Nat} {Cc : Addr} (K : CompS N sc scope x) (V₀ : EnvOk C N sc env A₀) : EnvOk C N (relab sc scope) (compEnvC scope (clOf env.cells scope.names []) Cc env) (compPf sc scope env.cells Cc) where
  scp := by rw [← V₀.scp]; rfl
  kind := K.kind
  loc := rfl
  cells := rfl
  vis := fun y hy => by
    show (_ || _) = true
    rcases hy with e | e <;> rw [e] <;> rfl
  kc := fun y hy => by
    rw [relab_lookup] at hy
    obtain ⟨k, h1, h2⟩ := map_some hy
    have hm := mem_of_lookup h1
    by_cases hc : (k == .free && sc.kind == .function && sc.names.lookup y == some .cell) = true
    · simp only [Bool.and_eq_true, beq_iff_eq] at hc
      rw [hc.1.1] at hm
      obtain ⟨c, hc⟩ := clOf_has (cells := env.cells) (acc := []) hm
      exact lookup_has hc
    · rw [if_neg hc] at h2
      exact absurd h2 (K.nocell _ hm)
  kl := fun y hy => by
    cases e : (clOf env.cells scope.names []).lookup y with
    | none => exact e
    | some c =>
      have h1 := K.lookup (comp_cl K V₀ e).1
      rw [relab_lookup, h1] at hy
      exfalso
      revert hy
      simp only [Option.map_some]
      split <;> (intro q; cases q)
  apart := fun n n' c e1 e2 => V₀.apart n n' c (comp_cl K V₀ e1).2 (comp_cl K V₀ e2).2
  glo := V₀.glo
  blt := V₀.blt
  gl := V₀.gl
  nd := V₀.nd

/-- the block's frame holds the item -/
theorem comp_frm {scope : Scope} {x : Nat} {Cc : Addr} {T : Nat} {H H' : Heap} {v : V} {y : Value} {f : Str → Option Value} (K : CompS N sc scope x) (V₀ : EnvOk C N sc env A₀) (Fm : Frm C.L C.G N β T m A₀ H) (hk : ∀ a o, A₀.own a → H.get? a = some o → H'.get? a = some o) (hn : H'.Ns Cc f) (hf : f (N.slots.getD x default) = some y) (r : VR C.L β T v y)
    (hC : Cc ∉ β) (hG : C.G.get? Cc = none) : Frm C.L C.G N β T (m.set x (some v)) (compPf sc scope env.cells Cc) H' where
  ns := by
    refine ⟨f, hn, fun i v' hi e1 e2 e3 => ?_⟩
    have e4 : (relab sc scope).names.lookup (N.slots.getD i default) = some .local := by
      rcases Bool.or_eq_true _ _ |>.mp (show (_ || _) = true from e2) with q | q
      · exact beq_iff_eq.mp q
      · obtain ⟨c, hc⟩ := (comp_env (Cc := Cc) K V₀).kc _ (beq_iff_eq.mp q)
        rw [hc] at e3; cases e3
    obtain rfl := K.sole i hi e4
    have : v' = v := by
      rw [List.getD_eq_getElem?_getD, List.getElem?_set_self'] at e1
      cases hm : m[i]? with
      | none => rw [hm] at e1; simp at e1
      | some w => rw [hm] at e1; simpa using e1.symm
    subst this
    exact ⟨y, hf, r⟩
  cl := by
    intro n c hc
    obtain ⟨h1, h2⟩ := comp_cl K V₀ hc
    obtain ⟨w, hw, l⟩ := Fm.cl n c h2
    refine ⟨w, isCell_keep hw fun o e => hk _ o (.inr ⟨n, h2⟩) e, fun i v' hi e1 e2 => ?_⟩
    have hix : i ≠ x := by
      rintro rfl
      have := K.lookup h1
      rw [← e1, K.loc] at this
      cases this
    refine l i v' hi e1 ?_
    rw [List.getD_eq_getElem?_getD, List.getElem?_set_ne (Ne.symm hix), ← List.getD_eq_getElem?_getD] at e2
    exact e2
  out := by
    rintro a (rfl | ⟨n, hc⟩)
    · exact hC
    · exact Fm.out _ (.inr ⟨n, (comp_cl K V₀ hc).2⟩)
  new := by
    rintro a (rfl | ⟨n, hc⟩)
    · exact hG
    · exact Fm.new _ (.inr ⟨n, (comp_cl K V₀ hc).2⟩)
end
end Mine

end

section
open PySem PySem.Calls PyProof.Rows PySem.W
namespace Mine
section
variable {C : Cx} {N : Nm} {sc : Scope} {env : Env} {A₀ : Pf} {A : Around} {d : Nat} {m : M} {h h' : Hp} {v : V} {s : Shared} {β : List Addr} {Q : Value → Shared → Prop} {E : Value → Shared → Prop} {S : Sm}

abbrev lstO (its : Array Value) (n : Nat) : Obj := { cls := .type "list", data := .seq its n }
/-- how a block ends: its list at D, its names at Cc -/
noncomputable def CompFin (C : Cx) (N : Nm) (A₀ : Pf) (s : Shared) (m : M) (β₀ : List Addr) (H₀ : Heap) (T₀ : Nat) (h' : Hp) (ys : List V) (D Cc : Addr) (R : Result → Shared → Prop) : Prop :=
  ∀ β' H' T' its n fC, T₀ ≤ T' → Ext β₀ H₀ β' H' → Gd C.w C.L C.G β' T' h' H' → Frm C.L C.G N β' T' m A₀ H' → D ∉ β' → Cc ∉ β' → H'.Ns Cc fC → H'.get? D = some (lstO its n) → All2 (VR C.L β' T') ys its.toList → ys.length ≤ LIM → R (.ok .next) { s with heap := H', toks := T' }

/-- what holds at a block's head -/
noncomputable def CompI (C : Cx) (N : Nm) (A₀ : Pf) (S : Sm) (I D Cc : Addr) (St : Nat → Obj → Prop) (vs : List V) (chk : Hp → Bool) (elt : ME) (x : Nat) (t : MO) (β₀ β₁ : List Addr) (H₀ : Heap) (T₀ : Nat) (m : M) (ys : List V) (h' : Hp) (s : Shared) (n : Nat) (s1 : Shared) : Prop :=
  ∃ i β1 H1 T1 h1 o1 its nn fC done rest, n + i = vs.length ∧ s1 = { s with heap := H1, toks := T1 } ∧ T₀ ≤ T1 ∧ Ext β₀ H₀ β1 H1 ∧ Pre β₁ β1 ∧ I ∉ β1 ∧ D ∉ β1 ∧ Cc ∉ β1 ∧ Gd C.w C.L C.G β1 T1 h1 H1 ∧ Frm C.L C.G N β1 T1 m A₀ H1 ∧ H1.get? I = some o1 ∧ St i o1 ∧ H1.Ns Cc fC ∧ H1.get? D = some (lstO its nn) ∧ All2 (VR C.L β1 T1) done its.toList ∧ done.length ≤ i ∧ mcomp C.X S chk elt x t (vs.drop i) m h1 = some (rest, h') ∧ ys = done ++ rest

/-- places that a block uses, apart from each other and from the frame -/
structure Apart (C : Cx) (A₀ : Pf) (H₀ : Heap) (I D Cc : Addr) : Prop where
  id : I ≠ D
  ic : I ≠ Cc
  dc : D ≠ Cc
  gi : C.G.get? I = none
  gd : C.G.get? D = none
  gc : C.G.get? Cc = none
  ai : ¬ A₀.own I
  ad : ¬ A₀.own D
  ac : ¬ A₀.own Cc
  i0 : H₀.get? I = none
  d0 : H₀.get? D = none
  c0 : H₀.get? Cc = none

theorem Ext.butI {β₀ β1 : List Addr} {H₀ H1 H2 : Heap} {I : Addr} (x : Ext β₀ H₀ β1 H1) (hI : H₀.get? I = none) (hk : ∀ b q, b ≠ I → H1.get? b = some q → H2.get? b = some q) : Ext β₀ H₀ β1 H2 :=
  ⟨x.pre, fun b o n e => let ⟨e1, n1⟩ := x.keep b o n e; ⟨hk b o (fun z => by rw [z, hI] at e; cases e) e1, n1⟩⟩

theorem comp_test {scope : Scope} {t : MO} {P : Pf} {envC : Env} {c : Bool} {m' : M} {Q : Bool → Shared → Prop} (itr : STr C S d) (V₁ : EnvOk C N scope envC P) (hA : AOk A d) (ok : t.ok N scope = true) (hs : mtest C.X S t m' h = some (c, h')) (G : Gd C.w C.L C.G β s.toks h s.heap) (Fm : Frm C.L C.G N β s.toks m' P s.heap)
    (k : ∀ β' H' T', s.toks ≤ T' → Ext β s.heap β' H' → Gd C.w C.L C.G β' T' h' H' → Q c { s with heap := H', toks := T' }) :
    wpAny (model C.prog C.w) A (forIn (t.tests N) true fun c r => if r = true then do let ok ← isTrue c envC (eval c envC); pure (ForInStep.yield ok) else pure (ForInStep.yield r)) Q E s := by
  cases t with
  | no =>
    cases hs
    exact wpAny_tests_nil (k β s.heap s.toks (Nat.le_refl _) (Ext.refl _ _) G)
  | yes e =>
    obtain ⟨⟨a, h1⟩, e1, hs⟩ := bind_some hs
    obtain ⟨c', e2, e3⟩ := map_some hs
    cases e3
    exact wpAny_tests_one (itr e N scope envC P A m' h _ a _ ok V₁ hA e1 e2 s β _ E G Fm k)

theorem mcomp_len {X : Hp} {chk : Hp → Bool} {elt : ME} {x : Nat} {t : MO} : ∀ {vs : List V} {m : M} {h h' : Hp} {ys : List V}, mcomp X S chk elt x t vs m h = some (ys, h') → ys.length ≤ vs.length
  | [], m, h, h', ys, e => by
    unfold mcomp at e
    split at e
    · cases e; exact Nat.le_refl _
    · cases e
  | v :: vs, m, h, h', ys, e => by
    unfold mcomp at e
    split at e
    · obtain ⟨⟨c, h1⟩, _, e⟩ := bind_some e
      dsimp only at e
      split at e
      · obtain ⟨⟨y, h2⟩, _, e⟩ := bind_some e
        obtain ⟨⟨zs, h3⟩, e1, e⟩ := map_some e
        cases e
        exact Nat.succ_le_succ (mcomp_len e1)
      · exact Nat.le_succ_of_le (mcomp_len e)
    · cases e

theorem comp_loop {elt : ME} {iter : Expr} {x : Nat} {xp p : Pos} {t : MO} {scope : Scope} {vs ys : List V} {chk : Hp → Bool} {St : Nat → Obj → Prop} {I D Cc : Addr} {o : Obj} {nn : Nat} {fC : Str → Option Value} {β₀ β₁ : List Addr} {H₀ : Heap} {T₀ : Nat} {R : Result → Shared → Prop}
    (ih : SEv C S d) (itr : STr C S d) (V₀ : EnvOk C N sc env A₀) (hA : AOk A d) (K : CompS N sc scope x) (oke : elt.ok N (relab sc scope) = true) (okt : t.ok N (relab sc scope) = true)
    (hit : Itr C A I St vs chk β₁) (hlen : vs.length ≤ LIM) (ap : Apart C A₀ H₀ I D Cc) (hpre : Pre β₁ β) (hI : I ∉ β) (hD : D ∉ β) (hC : Cc ∉ β) (x0 : Ext β₀ H₀ β s.heap) (t0 : T₀ ≤ s.toks) (G : Gd C.w C.L C.G β s.toks h s.heap) (Fm : Frm C.L C.G N β s.toks m A₀ s.heap)
    (ho : s.heap.get? I = some o) (hst : St 0 o) (hn : s.heap.Ns Cc fC) (hd : s.heap.get? D = some (lstO #[] nn)) (hs : mcomp C.X S chk elt x t vs m h = some (ys, h')) (fin : CompFin C N A₀ s m β₀ H₀ T₀ h' ys D Cc R) :
    codeAny (model C.prog C.w) A (.compLoop (.ListComp (elt.back N) [⟨.Name (N.slots.getD x default) xp, iter, t.tests N, 0⟩] scope p) 0 (.ref I) (.ref D) (compEnvC scope (clOf env.cells scope.names []) Cc env)) R s := by
  have V₁ := comp_env (Cc := Cc) K V₀
  have okx : (compEnvC scope (clOf env.cells scope.names []) Cc env).kindOf (N.slots.getD x default) = some .local := by
    unfold Env.kindOf
    rw [V₁.scp, relab_lookup, K.loc]
    rfl
  refine codeAny_compLoop_tests (I := CompI C N A₀ S I D Cc St vs chk elt x t β₀ β₁ H₀ T₀ m ys h' s) (fun n s1 q => ?_) vs.length
    ⟨0, β, s.heap, s.toks, h, o, #[], nn, fC, [], ys, rfl, rfl, t0, x0, hpre, hI, hD, hC, G, Fm, ho, hst, hn, hd, trivial, Nat.le_refl _, hs, rfl⟩
  obtain ⟨i, β1, H1, T1, h1, o1, its, n1, fC1, done, rest, hn1, rfl, t1, x1, p1, hI1, hD1, hC1, g1, f1, ho1, hst1, hns1, hd1, al1, hdl, e, hys⟩ := q
  rcases Nat.lt_or_ge i vs.length with hlt | hge
  · have hv : vs[i]? = some vs[i] := List.getElem?_eq_getElem hlt
    rw [List.drop_eq_getElem_cons hlt] at e
    unfold mcomp at e
    split at e
    · rename_i hc
      obtain ⟨⟨c, h2⟩, e1, e⟩ := bind_some e
      dsimp only at e
      refine hit.item i vs[i] { s with heap := H1, toks := T1 } β1 h1 o1 _ _ hv p1 g1 hc ho1 hst1 fun y H2 T2 o2 t2 ho2 hst2 hk r2 => ?_
      have g2 := (g1.toks t2).but hI1 ap.gi hk
      have f2 := (f1.but ap.ai hk).toks t2
      have x2 := x1.butI ap.i0 hk
      have hns2 := ns_keep hns1 fun o e => hk Cc o (Ne.symm ap.ic) e
      have hd2 := hk D _ (Ne.symm ap.id) hd1
      refine wpAny_assign_Name (wpAny_storeName_local okx (by rw [V₁.loc]; exact hns2) (fun H3 hns3 hs3 => ?_) (by rw [V₁.scp, V₁.kind]; rfl))
      rw [V₁.loc] at hns3 hs3
      have hk3 : ∀ b q, b ≠ Cc → H2.get? b = some q → H3.get? b = some q := fun b q n e => (hs3.2 b n).trans e
      have g3 := (g2.toks (Nat.le_succ _)).but hC1 ap.gc hk3
      have f3 := (f2.but ap.ac hk3).toks (Nat.le_succ _)
      have x3 := x2.butI ap.c0 hk3
      have hd3 := hk3 D _ ap.dc hd2
      have ho3 := hk3 I _ ap.ic ho2
      have F3 : Frm C.L C.G N β1 (T2 + 1) (m.set x (some vs[i])) (compPf sc scope env.cells Cc) H3 :=
        comp_frm K V₀ f3 (fun a o _ e => e) hns3 (by simp) (r2.mono (Pre.refl _) (Nat.le_succ _)) hC1 ap.gc
      refine comp_test (s := { s with heap := H3, toks := T2 + 1 }) itr V₁ hA okt e1 g3 F3 fun β4 H4 T4 t4 x4 g4 => ?_
      have kI4 := x4.keep I _ hI1 ho3
      have kD4 := x4.keep D _ hD1 hd3
      obtain ⟨oC, esC, epC, hoC, rC⟩ := hns3
      have kC4 := x4.keep Cc _ hC1 hoC
      cases c with
      | false =>
        rw [if_neg (by decide)]
        rw [if_neg (by decide)] at e
        exact ⟨n - 1, by omega, i + 1, β4, H4, T4, h2, o2, its, n1, _, done, rest, by omega, rfl, Nat.le_trans t1 (Nat.le_trans t2 (Nat.le_trans (Nat.le_succ _) t4)), x3.trans x4, p1.trans x4.pre, kI4.2, kD4.2, kC4.2, g4, f3.ext x4 t4, kI4.1, hst2, ⟨oC, esC, epC, kC4.1, rC⟩, kD4.1,
          al1.mono fun _ _ => VR.mono x4.pre (Nat.le_trans t2 (Nat.le_trans (Nat.le_succ _) t4)), Nat.le_succ_of_le hdl, e, hys⟩
      | true =>
        rw [if_pos rfl]
        rw [if_pos rfl] at e
        obtain ⟨⟨z, h5⟩, e5, e⟩ := bind_some e
        obtain ⟨⟨zs, h6⟩, e6, e⟩ := map_some e
        cases e
        refine ih elt N (relab sc scope) _ _ A (m.set x (some vs[i])) h2 h5 z oke V₁ hA e5 { s with heap := H4, toks := T4 } β4 _ _ g4 (F3.ext x4 t4) fun za β5 H5 T5 t5 x5 g5 r5 => ?_
        have kI5 := x5.keep I _ kI4.2 kI4.1
        have kD5 := x5.keep D _ kD4.2 kD4.1
        have kC5 := x5.keep Cc _ kC4.2 kC4.1
        have x5' := (x3.trans x4).trans x5
        have f5 := (f3.ext x4 t4).ext x5 t5
        have tt : T1 ≤ T5 := Nat.le_trans t2 (Nat.le_trans (Nat.le_succ _) (Nat.le_trans t4 t5))
        have al5 := al1.mono fun _ _ => VR.mono (x4.pre.trans x5.pre) tt
        have hsz : its.size = done.length := by rw [← Array.length_toList, ← al1.length]
        refine append_at (its := its) (n := n1) kD5.1 (fun H6 hs6 hd6 => ?_) (by rw [hsz, sizeLine_eq]; unfold LIM at hlen; omega)
        have hk6 : ∀ b q, b ≠ D → H5.get? b = some q → H6.get? b = some q := fun b q n e => (hs6.2 b n).trans e
        refine ⟨n - 1, by omega, i + 1, β5, H6, T5, h5, o2, its.push za, n1 + 1, _, done ++ [z], zs, by omega, rfl, Nat.le_trans t1 tt, x5'.butI ap.d0 hk6, p1.trans (x4.pre.trans x5.pre), kI5.2, kD5.2, kC5.2, g5.but kD5.2 ap.gd hk6, f5.but ap.ad hk6, hk6 I _ ap.id kI5.1, hst2, ⟨oC, esC, epC, hk6 Cc _ (Ne.symm ap.dc) kC5.1, rC⟩, hd6,
          ?_, by rw [List.length_append]; exact Nat.succ_le_succ hdl, e6, by rw [hys, List.append_assoc]; rfl⟩
        rw [Array.toList_push]
        exact All2.append al5 ⟨r5, trivial⟩
    · cases e
  · have hi : i = vs.length := by omega
    subst hi
    rw [List.drop_length] at e
    unfold mcomp at e
    split at e
    · rename_i hc
      cases e
      refine hit.done { s with heap := H1, toks := T1 } β1 _ o1 _ _ p1 g1 hc ho1 hst1 fun H2 T2 t2 hk => ?_
      rw [List.append_nil] at hys
      subst hys
      exact fin β1 H2 T2 its n1 fC1 (Nat.le_trans t1 t2) (x1.butI ap.i0 hk) ((g1.toks t2).but hI1 ap.gi hk) ((f1.but ap.ai hk).toks t2) hD1 hC1 (ns_keep hns1 fun o e => hk Cc o (Ne.symm ap.ic) e) (hk D _ (Ne.symm ap.id) hd1) (al1.mono fun _ _ => VR.mono (Pre.refl _) t2) (Nat.le_trans hdl hlen)
    · cases e
end
end Mine

end

section
open PySem PySem.Calls PyProof.Rows PySem.W
namespace Mine
section
variable {C : Cx} {N : Nm} {sc : Scope} {env : Env} {A₀ : Pf} {A : Around} {d : Nat} {m : M} {h h' : Hp} {v : V} {s : Shared} {β : List Addr} {Q : Value → Shared → Prop} {E : Value → Shared → Prop} {S : Sm}

theorem comp_block {elt : ME} {iter : Expr} {x : Nat} {xp p : Pos} {t : MO} {scope : Scope} {vs ys : List V} {chk : Hp → Bool} {St : Nat → Obj → Prop} {I : Addr} {o : Obj} {β₀ : List Addr} {H₀ : Heap} {T₀ : Nat} {RR : Value → Addr → Result → Shared → Prop}
    (ih : SEv C S d) (itr : STr C S d) (V₀ : EnvOk C N sc env A₀) (hA : AOk A d) (K : CompS N sc scope x) (oke : elt.ok N (relab sc scope) = true) (okt : t.ok N (relab sc scope) = true)
    (hit : Itr C A I St vs chk β) (hlen : vs.length ≤ LIM) (hI : I ∉ β) (hG : C.G.get? I = none) (hne : ¬ A₀.own I) (hI0 : H₀.get? I = none) (x0 : Ext β₀ H₀ β s.heap) (t0 : T₀ ≤ s.toks) (G : Gd C.w C.L C.G β s.toks h s.heap) (Fm : Frm C.L C.G N β s.toks m A₀ s.heap)
    (ho : s.heap.get? I = some o) (hst : St 0 o) (hs : mcomp C.X S chk elt x t vs m h = some (ys, h')) (fin : ∀ D Cc, Apart C A₀ H₀ I D Cc → (D == sysModules) = false → CompFin C N A₀ s m β₀ H₀ T₀ h' ys D Cc (RR (.ref D) Cc)) :
    wpAny (model C.prog C.w) A (newList []) (fun acc s₃ => wpAny (model C.prog C.w) A (newFunctionEnv scope env.globals (clOf env.cells scope.names []) [] env.qual none .none (some env)) (fun cenv s₄ =>
      codeAny (model C.prog C.w) A (.compStart (.ListComp (elt.back N) [⟨.Name (N.slots.getD x default) xp, iter, t.tests N, 0⟩] scope p) 0 (.ref I) acc { cenv with scope := relabel scope env }) (RR acc cenv.locals) s₄) E s₃) E s := by
  refine wpAny_newObj_type (wpAny_newFunctionEnv K.nocell (by intro y hy; simp at hy) (fun h₁ hns₁ hsb₁ => ?_) K.kind)
  dsimp only at hns₁ hsb₁ ⊢
  have kp := get?_push_keep (H := s.heap) (lstO ([] : List Value).toArray 0)
  have G2 : Gd C.w C.L C.G β s.toks h (s.heap.push (lstO ([] : List Value).toArray 0)) := G.grow kp
  have x2 : Ext β₀ H₀ β (s.heap.push (lstO ([] : List Value).toArray 0)) := x0.trans (Ext.grow kp)
  have hC : (s.heap.push (lstO ([] : List Value).toArray 0)).objs.size = s.heap.objs.size + 1 := Heap.size_push ..
  have hlt : ∀ b o, s.heap.get? b = some o → b ≠ s.heap.objs.size ∧ b ≠ (s.heap.push (lstO ([] : List Value).toArray 0)).objs.size := fun b o e =>
    ⟨Nat.ne_of_lt (Heap.lt_size e), by rw [hC]; exact Nat.ne_of_lt (Nat.lt_succ_of_lt (Heap.lt_size e))⟩
  have hDC : s.heap.objs.size ≠ (s.heap.push (lstO ([] : List Value).toArray 0)).objs.size := by rw [hC]; exact Nat.ne_of_lt (Nat.lt_succ_self _)
  have ap : Apart C A₀ H₀ I s.heap.objs.size (s.heap.push (lstO ([] : List Value).toArray 0)).objs.size :=
    ⟨(hlt _ _ ho).1, (hlt _ _ ho).2, hDC, hG, G.fresh.2, G2.fresh.2, hne, fun q => let ⟨_, e⟩ := Fm.at q; (hlt _ _ e).1 rfl, fun q => let ⟨_, e⟩ := Fm.at q; (hlt _ _ e).2 rfl, hI0, Gd.notIn (T' := 0) x0 G, Gd.notIn (T' := 0) x2 G2⟩
  have fin' := fin _ _ ap (fresh_big G)
  have hk1 : ∀ b o, (s.heap.push (lstO ([] : List Value).toArray 0)).get? b = some o → h₁.get? b = some o := fun b o e =>
    (hsb₁.2 b (fun z => by rw [z] at e; exact Nat.lt_irrefl _ (Heap.lt_size e))).trans (Heap.get?_push_of_some _ e)
  have hk : ∀ b o, s.heap.get? b = some o → h₁.get? b = some o := fun b o e => hk1 b o (kp b o e)
  have hd : h₁.get? s.heap.objs.size = some (lstO #[] 0) := hk1 _ _ (Heap.get?_push_size _ rfl)
  have g1 : Gd C.w C.L C.G β (s.toks + ([] : List (Str × Value)).length) h h₁ := G.grow hk
  have f1 : Frm C.L C.G N β (s.toks + ([] : List (Str × Value)).length) m A₀ h₁ := Fm.ext (Ext.grow hk) (Nat.le_refl _)
  have loop := comp_loop (s := { s with heap := h₁, toks := s.toks + ([] : List (Str × Value)).length }) (R := RR (.ref s.heap.objs.size) (s.heap.push (lstO ([] : List Value).toArray 0)).objs.size) (iter := iter) (xp := xp) (p := p) (T₀ := T₀) ih itr V₀ hA K oke okt hit hlen ap (Pre.refl _) hI G.fresh.1 G2.fresh.1 (x0.trans (Ext.grow hk)) t0 g1 f1 (hk _ _ ho) hst hns₁ hd hs fin'
  exact codeAny_compStart_list loop (hit.self _ 0 o _ _ (hk _ _ ho) hst loop)

theorem ev_comp {elt it : ME} {x : Nat} {xp p : Pos} {t : MO} {scope : Scope} (ok0 : C.Ok) (ih : SEv C S d) (itr : STr C S d) (V₀ : EnvOk C N sc env A₀) (hA : AOk A d) (ok : ME.ok N sc (.comp elt x xp it t scope p) = true) (hs : stepE C.X S (.comp elt x xp it t scope p) m h = some (v, h'))
    (G : Gd C.w C.L C.G β s.toks h s.heap) (Fm : Frm C.L C.G N β s.toks m A₀ s.heap) (pst : Pst C s β h' v Q) : GE C N env A Q E s (ME.comp elt x xp it t scope p) := by
  replace ok := (show (_ && _) = true from ok)
  simp only [Bool.and_eq_true] at ok
  obtain ⟨⟨⟨okc, oki⟩, oke⟩, okt⟩ := ok
  have K := compOk_inv okc
  obtain ⟨⟨a, h1⟩, e1, hs⟩ := bind_some hs
  obtain ⟨⟨vs, chk, h2⟩, e2, hs⟩ := bind_some hs
  dsimp only at hs
  by_cases hlen : vs.length ≤ LIM
  · rw [if_pos hlen] at hs
    obtain ⟨⟨ys, h3⟩, e3, hs⟩ := map_some hs
    cases hs
    show wpAny _ _ (eval (.ListComp (elt.back N) [⟨.Name (N.slots.getD x default) xp, it.back N, t.tests N, 0⟩] scope p) env) Q E s
    rw [eval_ListComp]
    refine wpAny_comprehension_free (use := none) rfl (fun _ => notSet it) (closure_is (comp_free K V₀)) K.kind (fun y hy e => by obtain ⟨a, b⟩ := y; exact K.lookup (show (a, NameKind.local) ∈ _ from (show b = .local from e) ▸ hy)) ?_
    refine iter_plain (h' := h2) (vs := vs) (chk := chk) ok0 ih V₀ hA oki (by rw [e1]; exact e2) G Fm fun I o St β1 H1 T1 t1 hI hG hne hI0 x1 g1 f1 ho hst hit hSt => ?_
    refine comp_block (s := { s with heap := H1, toks := T1 }) (β₀ := β) (H₀ := s.heap) (T₀ := s.toks) ih itr V₀ hA K oke okt hit hlen hI hG hne hI0 x1 t1 g1 f1 ho hst e3 fun D Cc ap hb β' H' T' its n fC t' x' g' f' hD' hC' hns hd al le => ?_
    refine ⟨_, hns, fun H'' hs'' => ?_⟩
    have hk : ∀ b q, b ≠ Cc → H'.get? b = some q → H''.get? b = some q := fun b q n e => (hs''.2 b n).trans e
    have g2 := g'.but hC' ap.gc hk
    have hd2 := hk D _ ap.dc hd
    have g3 := g2.adopt hD' ap.gd hb (fun b o _ e => e) (o := .list ys) hd2 ⟨⟨_, _, _, _, rfl, al.mono fun _ _ => VR.mono ⟨_, rfl⟩ (Nat.le_refl _), le⟩, rfl⟩
    have x2 := x'.butI ap.c0 hk
    refine pst _ (β' ++ [D]) H'' T' t' ⟨x2.pre.trans ⟨_, rfl⟩, fun b o n e => ?_⟩ g3 ⟨D, by rw [← g'.len]; simp, rfl⟩
    obtain ⟨q1, q2⟩ := x2.keep b o n e
    refine ⟨q1, fun hm => ?_⟩
    rcases List.mem_append.mp hm with q | q
    · exact q2 q
    · simp at q
      subst q
      rw [ap.d0] at e
      cases e
  · rw [if_neg hlen] at hs
    cases hs
end
end Mine

end

section
open PySem PySem.Calls PyProof.Rows PySem.W
namespace Mine
section
variable {C : Cx} {N : Nm} {sc : Scope} {env : Env} {A₀ : Pf} {A : Around} {d : Nat} {m : M} {h h' : Hp} {v : V} {s : Shared} {β : List Addr} {Q : Value → Shared → Prop} {E : Value → Shared → Prop} {S : Sm}

theorem noMarks {op : CmpOp} : ∀ r : ME, behindInMarks op (r.back N) = false := by
  intro r
  cases r <;> first | rfl | (rename_i sp ks vs p; cases sp <;> rfl)

theorem stepE_sound (ok0 : C.Ok) (ih : SEv C S d) (it : STr C S d) (ic : SCl C S d) (hev : ∀ (c : C0) (p : Pos) (m : M) (h : Hp) r, S.ev (.cst c p) m h = some r → r = (c.val, h))
    (e : ME) (ok : e.ok N sc = true) (V₀ : EnvOk C N sc env A₀) (hA : AOk A d) (hs : stepE C.X S e m h = some (v, h')) (G : Gd C.w C.L C.G β s.toks h s.heap) (Fm : Frm C.L C.G N β s.toks m A₀ s.heap) (pst : Pst C s β h' v Q) :
    GE C N env A Q E s e := by
  cases e with
  | loc i p => exact ev_loc V₀ ok hs G Fm pst
  | glob i p => exact ev_glob ok0 V₀ ok hs G pst
  | cst c p => exact ev_cst ok hs G pst
  | bin op l r p =>
    replace ok := (show (_ && _) = true from ok)
    simp only [Bool.and_eq_true] at ok
    obtain ⟨⟨a, h1⟩, e1, e2⟩ := bind_some hs
    obtain ⟨⟨b, h2⟩, e3, e4⟩ := bind_some e2
    obtain ⟨v', e5, e6⟩ := map_some e4
    cases e6
    refine wpAny_BinOp ?_
    refine ih l N sc env A₀ A m h h1 a ok.1 V₀ hA e1 s β _ E G Fm fun x β1 H1 T1 t1 x1 g1 r1 => ?_
    refine ih r N sc env A₀ A m h1 _ b ok.2 V₀ hA e3 { s with heap := H1, toks := T1 } β1 _ E g1 (Fm.ext x1 t1) fun y β2 H2 T2 t2 x2 g2 r2 => ?_
    have P2 := (pst.step t1 x1).step t2 x2
    refine binop_sound (s := { s with heap := H2, toks := T2 }) hA.hd g2 e5 (r1.mono x2.pre t2) r2 (fun f z h1 h2 h3 u t => ?_) P2
    subst h1 h2 h3
    exact pct_sound (s := { s with heap := H2, toks := T2 }) g2 e5 P2
  | cmp op l r p =>
    replace ok := (show (_ && _) = true from ok)
    simp only [Bool.and_eq_true] at ok
    obtain ⟨⟨a, h1⟩, e1, e2⟩ := bind_some hs
    obtain ⟨⟨b, h2⟩, e3, e4⟩ := bind_some e2
    obtain ⟨c, e5, e6⟩ := map_some e4
    cases e6
    refine wpAny_Compare1 ?_ (noMarks r)
    refine ih l N sc env A₀ A m h h1 a ok.1 V₀ hA e1 s β _ E G Fm fun x β1 H1 T1 t1 x1 g1 r1 => ?_
    refine ih r N sc env A₀ A m h1 _ b ok.2 V₀ hA e3 { s with heap := H1, toks := T1 } β1 _ E g1 (Fm.ext x1 t1) fun y β2 H2 T2 t2 x2 g2 r2 => ?_
    have P2 := (pst.step t1 x1).step t2 x2
    exact cmp_sound (s := { s with heap := H2, toks := T2 }) ok0 hA g2 e5 (r1.mono x2.pre t2) r2 fun T t => P2.same g2 t rfl
  | and2 l r p =>
    replace ok := (show (_ && _) = true from ok)
    simp only [Bool.and_eq_true] at ok
    obtain ⟨⟨a, h1⟩, e1, e2⟩ := bind_some hs
    obtain ⟨t, e3, e4⟩ := bind_some e2
    refine BoolOp_and ?_
    refine ih l N sc env A₀ A m h h1 a ok.1 V₀ hA e1 s β _ E G Fm fun x β1 H1 T1 t1 x1 g1 r1 => ?_
    refine truth_sound (s := { s with heap := H1, toks := T1 }) ok0 g1 r1 e3 fun T2 t2 => ?_
    cases t with
    | true =>
      refine BoolOp_one (ih r N sc env A₀ A m h1 h' v ok.2 V₀ hA e4 { s with heap := H1, toks := T2 } β1 _ E (g1.toks t2) (Fm.ext x1 (Nat.le_trans t1 t2)) (pst.step (Nat.le_trans t1 t2) x1))
    | false => cases e4; exact pst x β1 H1 T2 (Nat.le_trans t1 t2) x1 (g1.toks t2) (r1.mono (Pre.refl _) t2)
  | or2 l r p =>
    replace ok := (show (_ && _) = true from ok)
    simp only [Bool.and_eq_true] at ok
    obtain ⟨⟨a, h1⟩, e1, e2⟩ := bind_some hs
    obtain ⟨t, e3, e4⟩ := bind_some e2
    refine BoolOp_or ?_
    refine ih l N sc env A₀ A m h h1 a ok.1 V₀ hA e1 s β _ E G Fm fun x β1 H1 T1 t1 x1 g1 r1 => ?_
    refine truth_sound (s := { s with heap := H1, toks := T1 }) ok0 g1 r1 e3 fun T2 t2 => ?_
    cases t with
    | false =>
      refine BoolOp_one (ih r N sc env A₀ A m h1 h' v ok.2 V₀ hA e4 { s with heap := H1, toks := T2 } β1 _ E (g1.toks t2) (Fm.ext x1 (Nat.le_trans t1 t2)) (pst.step (Nat.le_trans t1 t2) x1))
    | true => cases e4; exact pst x β1 H1 T2 (Nat.le_trans t1 t2) x1 (g1.toks t2) (r1.mono (Pre.refl _) t2)
  | and3 l c r p =>
    replace ok := (show (_ && _) = true from ok)
    simp only [Bool.and_eq_true] at ok
    obtain ⟨⟨a, h1⟩, e1, e2⟩ := bind_some hs
    obtain ⟨t, e3, e4⟩ := bind_some e2
    refine BoolOp_and ?_
    refine ih l N sc env A₀ A m h h1 a ok.1.1 V₀ hA e1 s β _ E G Fm fun x β1 H1 T1 t1 x1 g1 r1 => ?_
    refine truth_sound (s := { s with heap := H1, toks := T1 }) ok0 g1 r1 e3 fun T2 t2 => ?_
    cases t with
    | true =>
      obtain ⟨⟨b, h2⟩, e5, e6⟩ := bind_some e4
      obtain ⟨t', e7, e8⟩ := bind_some e6
      refine BoolOp_and ?_
      have P2 := pst.step (Nat.le_trans t1 t2) x1
      refine ih c N sc env A₀ A m h1 h2 b ok.1.2 V₀ hA e5 { s with heap := H1, toks := T2 } β1 _ E (g1.toks t2) (Fm.ext x1 (Nat.le_trans t1 t2)) fun y β3 H3 T3 t3 x3 g3 r3 => ?_
      refine truth_sound (s := { s with heap := H3, toks := T3 }) ok0 g3 r3 e7 fun T4 t4 => ?_
      have F3 := (Fm.ext x1 (Nat.le_trans t1 t2)).ext x3 (Nat.le_trans t3 t4)
      cases t' with
      | true => exact BoolOp_one (ih r N sc env A₀ A m h2 h' v ok.2 V₀ hA e8 { s with heap := H3, toks := T4 } β3 _ E (g3.toks t4) F3 (P2.step (Nat.le_trans t3 t4) x3))
      | false => cases e8; exact P2 y β3 H3 T4 (Nat.le_trans t3 t4) x3 (g3.toks t4) (r3.mono (Pre.refl _) t4)
    | false => cases e4; exact pst x β1 H1 T2 (Nat.le_trans t1 t2) x1 (g1.toks t2) (r1.mono (Pre.refl _) t2)
  | isNil x lp p =>
    replace ok := (show ME.ok N sc _ = true from ok)
    obtain ⟨⟨a, h1⟩, e1, e2⟩ := bind_some hs
    obtain ⟨o, e3, e4⟩ := bind_some e2
    cases o with
    | dict => cases e4
    | list vs =>
      cases e4
      refine wpAny_Compare1 ?_ rfl
      refine ih x N sc env A₀ A m h _ a ok V₀ hA e1 s β _ E G Fm fun x β1 H1 T1 t1 x1 g1 r1 => ?_
      refine List_ (spliced_nil (wpAny_newObj_type ?_))
      have kp := get?_push_keep (H := H1) { cls := .type "list", data := .seq #[] }
      refine nil_sound (s := { s with heap := H1.push { cls := .type "list", data := .seq #[] }, toks := T1 }) ok0 hA (g1.grow kp) e3 r1 ⟨_, Heap.get?_push_size _ rfl, rfl, 0, rfl⟩ ?_
      exact pst _ β1 _ T1 t1 (x1.trans (Ext.grow kp)) (g1.grow kp) rfl
  | lrange np rp x ap p => exact ev_lrange ok0 ih V₀ hA ok hs G Fm pst
  | not x p =>
    replace ok := (show ME.ok N sc _ = true from ok)
    obtain ⟨⟨a, h1⟩, e1, e2⟩ := bind_some hs
    obtain ⟨t, e3, e4⟩ := map_some e2
    cases e4
    refine UnaryOp_ ?_
    refine ih x N sc env A₀ A m h _ a ok V₀ hA e1 s β _ E G Fm fun x β1 H1 T1 t1 x1 g1 r1 => ?_
    refine not_of (truth_sound (s := { s with heap := H1, toks := T1 }) ok0 g1 r1 e3 fun T2 t2 => ?_)
    exact pst _ β1 H1 T2 (Nat.le_trans t1 t2) x1 (g1.toks t2) rfl
  | neg x p =>
    replace ok := (show ME.ok N sc _ = true from ok)
    obtain ⟨⟨a, h1⟩, e1, e2⟩ := bind_some hs
    refine UnaryOp_ ?_
    refine ih x N sc env A₀ A m h _ a ok V₀ hA e1 s β _ E G Fm fun x β1 H1 T1 t1 x1 g1 r1 => ?_
    simp only at e2
    split at e2
    · cases e2
      obtain ⟨t, rfl⟩ := r1
      exact PyProof.Rows.neg_int (pst _ β1 H1 (T1 + 1) (Nat.le_succ_of_le t1) x1 (g1.toks (Nat.le_succ _)) ⟨_, rfl⟩)
    · cases e2
  | ite t b o p =>
    replace ok := (show (_ && _) = true from ok)
    simp only [Bool.and_eq_true] at ok
    obtain ⟨⟨a, h1⟩, e1, e2⟩ := bind_some hs
    obtain ⟨c, e3, e4⟩ := bind_some e2
    refine IfExp_ ?_
    refine it t N sc env A₀ A m h h1 a c ok.1.1 V₀ hA e1 e3 s β _ E G Fm fun β1 H1 T1 t1 x1 g1 => ?_
    cases c with
    | true => exact ih b N sc env A₀ A m h1 h' v ok.1.2 V₀ hA e4 { s with heap := H1, toks := T1 } β1 _ E g1 (Fm.ext x1 t1) (pst.step t1 x1)
    | false => exact ih o N sc env A₀ A m h1 h' v ok.2 V₀ hA e4 { s with heap := H1, toks := T1 } β1 _ E g1 (Fm.ext x1 t1) (pst.step t1 x1)
  | idx x i p =>
    replace ok := (show (_ && _) = true from ok)
    simp only [Bool.and_eq_true] at ok
    obtain ⟨⟨a, h1⟩, e1, e2⟩ := bind_some hs
    obtain ⟨⟨b, h2⟩, e3, e4⟩ := bind_some e2
    obtain ⟨v', e5, e6⟩ := map_some e4
    cases e6
    refine Subscript_ ?_
    refine ih x N sc env A₀ A m h h1 a ok.1 V₀ hA e1 s β _ E G Fm fun x β1 H1 T1 t1 x1 g1 r1 => ?_
    refine ih i N sc env A₀ A m h1 _ b ok.2 V₀ hA e3 { s with heap := H1, toks := T1 } β1 _ E g1 (Fm.ext x1 t1) fun y β2 H2 T2 t2 x2 g2 r2 => ?_
    exact idx_sound (s := { s with heap := H2, toks := T2 }) ok0 g2 e5 (r1.mono x2.pre t2) r2 (fun l u p => noSlice _ l u p) ((pst.step t1 x1).step t2 x2)
  | slice x lo hi sp p => exact ev_slice ok0 ih V₀ hA ok hs G Fm pst
  | call f as p => exact ev_call ok0 ih ic V₀ hA ok hs G Fm pst
  | bcall n np as p => exact ev_bcall ok0 ih V₀ hA ok hs G Fm pst
  | meth n x ap as p =>
    exact ev_meth ok0 ih V₀ hA hev ok hs G Fm pst
  | list es p => exact ev_list ih V₀ hA ok hs G Fm pst
  | comp elt x xp i t scope p => exact ev_comp ok0 ih it V₀ hA ok hs G Fm pst
  | dict sp ks vs p =>
    cases sp with
    | no => exact ev_dict0 ok hs G pst
    | yes x => exact ev_spread ok0 ih V₀ hA ok hs G Fm pst
end
section
variable {C : Cx} {N : Nm} {sc : Scope} {env : Env} {A₀ : Pf} {A : Around} {d : Nat} {m : M} {h h' : Hp} {v : V} {s : Shared} {β : List Addr} {Q : Bool → Shared → Prop} {E : Value → Shared → Prop} {S : Sm}

theorem stepT_sound (ok0 : C.Ok) (ih : SEv C S d) (it : STr C S d) (ic : SCl C S d) (hev : ∀ (c : C0) (p : Pos) (m : M) (h : Hp) r, S.ev (.cst c p) m h = some r → r = (c.val, h)) {t : Bool}
    (e : ME) (ok : e.ok N sc = true) (V₀ : EnvOk C N sc env A₀) (hA : AOk A d) (hs : stepE C.X S e m h = some (v, h')) (ht : truth C.X h' v = some t) (G : Gd C.w C.L C.G β s.toks h s.heap) (Fm : Frm C.L C.G N β s.toks m A₀ s.heap)
    (k : ∀ β' H' T', s.toks ≤ T' → Ext β s.heap β' H' → Gd C.w C.L C.G β' T' h' H' → Q t { s with heap := H', toks := T' }) :
    wpAny (model C.prog C.w) A (isTrue (e.back N) env (eval (e.back N) env)) Q E s := by
  have plain : ∀ (he : isTrue (e.back N) env (eval (e.back N) env) = (do let v ← eval (e.back N) env; standAt (e.back N).pos; holding [v] (truthy v))), wpAny (model C.prog C.w) A (isTrue (e.back N) env (eval (e.back N) env)) Q E s := by
    intro he
    refine isTrue_plain ?_ he
    refine stepE_sound ok0 ih it ic hev e ok V₀ hA hs G Fm fun x β1 H1 T1 t1 x1 g1 r1 => ?_
    exact truth_sound (s := { s with heap := H1, toks := T1 }) ok0 g1 r1 ht fun T2 t2 => k β1 H1 T2 (Nat.le_trans t1 t2) x1 (g1.toks t2)
  have k' : ∀ {β1 H1 T1} (t1 : s.toks ≤ T1) (x1 : Ext β s.heap β1 H1), ∀ β' H' T', T1 ≤ T' → Ext β1 H1 β' H' → Gd C.w C.L C.G β' T' h' H' → Q t { s with heap := H', toks := T' } :=
    fun t1 x1 β' H' T' t2 x2 g2 => k β' H' T' (Nat.le_trans t1 t2) (x1.trans x2) g2
  cases e with
  | cmp op l r p =>
    replace ok := (show (_ && _) = true from ok)
    simp only [Bool.and_eq_true] at ok
    obtain ⟨⟨a, h1⟩, e1, e2⟩ := bind_some hs
    obtain ⟨⟨b, h2⟩, e3, e4⟩ := bind_some e2
    obtain ⟨c, e5, e6⟩ := map_some e4
    cases e6
    cases ht
    refine wpAny_isTrue_Compare1 ?_ (noMarks r)
    refine ih l N sc env A₀ A m h h1 a ok.1 V₀ hA e1 s β _ E G Fm fun x β1 H1 T1 t1 x1 g1 r1 => ?_
    refine ih r N sc env A₀ A m h1 _ b ok.2 V₀ hA e3 { s with heap := H1, toks := T1 } β1 _ E g1 (Fm.ext x1 t1) fun y β2 H2 T2 t2 x2 g2 r2 => ?_
    exact cmp_sound (s := { s with heap := H2, toks := T2 }) ok0 hA g2 e5 (r1.mono x2.pre t2) r2 fun T t3 => wpAny_truthy_bool (k β2 H2 T (Nat.le_trans t1 (Nat.le_trans t2 t3)) (x1.trans x2) (g2.toks t3))
  | and2 l r p =>
    replace ok := (show (_ && _) = true from ok)
    simp only [Bool.and_eq_true] at ok
    obtain ⟨⟨a, h1⟩, e1, e2⟩ := bind_some hs
    obtain ⟨t1, e3, e4⟩ := bind_some e2
    refine isTrue_and (it l N sc env A₀ A m h h1 a t1 ok.1 V₀ hA e1 e3 s β _ E G Fm fun β1 H1 T1 q1 x1 g1 => ?_)
    cases t1 with
    | true =>
      refine isTrue_and (it r N sc env A₀ A m h1 h' v t ok.2 V₀ hA e4 ht { s with heap := H1, toks := T1 } β1 _ E g1 (Fm.ext x1 q1) fun β2 H2 T2 q2 x2 g2 => ?_)
      have := k' q1 x1 β2 H2 T2 q2 x2 g2
      cases t with
      | true => exact isTrue_and_nil this
      | false => exact this
    | false => cases e4; rw [e3] at ht; cases ht; exact k β1 H1 T1 q1 x1 g1
  | or2 l r p =>
    replace ok := (show (_ && _) = true from ok)
    simp only [Bool.and_eq_true] at ok
    obtain ⟨⟨a, h1⟩, e1, e2⟩ := bind_some hs
    obtain ⟨t1, e3, e4⟩ := bind_some e2
    refine isTrue_or (it l N sc env A₀ A m h h1 a t1 ok.1 V₀ hA e1 e3 s β _ E G Fm fun β1 H1 T1 q1 x1 g1 => ?_)
    cases t1 with
    | false =>
      refine isTrue_or (it r N sc env A₀ A m h1 h' v t ok.2 V₀ hA e4 ht { s with heap := H1, toks := T1 } β1 _ E g1 (Fm.ext x1 q1) fun β2 H2 T2 q2 x2 g2 => ?_)
      have := k' q1 x1 β2 H2 T2 q2 x2 g2
      cases t with
      | true => exact this
      | false => exact isTrue_or_nil this
    | true => cases e4; rw [e3] at ht; cases ht; exact k β1 H1 T1 q1 x1 g1
  | and3 l c r p =>
    replace ok := (show (_ && _) = true from ok)
    simp only [Bool.and_eq_true] at ok
    obtain ⟨⟨a, h1⟩, e1, e2⟩ := bind_some hs
    obtain ⟨t1, e3, e4⟩ := bind_some e2
    refine isTrue_and (it l N sc env A₀ A m h h1 a t1 ok.1.1 V₀ hA e1 e3 s β _ E G Fm fun β1 H1 T1 q1 x1 g1 => ?_)
    cases t1 with
    | true =>
      obtain ⟨⟨b, h2⟩, e5, e6⟩ := bind_some e4
      obtain ⟨t2, e7, e8⟩ := bind_some e6
      refine isTrue_and (it c N sc env A₀ A m h1 h2 b t2 ok.1.2 V₀ hA e5 e7 { s with heap := H1, toks := T1 } β1 _ E g1 (Fm.ext x1 q1) fun β2 H2 T2 q2 x2 g2 => ?_)
      cases t2 with
      | true =>
        refine isTrue_and (it r N sc env A₀ A m h2 h' v t ok.2 V₀ hA e8 ht { s with heap := H2, toks := T2 } β2 _ E g2 ((Fm.ext x1 q1).ext x2 q2) fun β3 H3 T3 q3 x3 g3 => ?_)
        have := k' (Nat.le_trans q1 q2) (x1.trans x2) β3 H3 T3 q3 x3 g3
        cases t with
        | true => exact isTrue_and_nil this
        | false => exact this
      | false => cases e8; rw [e7] at ht; cases ht; exact k β2 H2 T2 (Nat.le_trans q1 q2) (x1.trans x2) g2
    | false => cases e4; rw [e3] at ht; cases ht; exact k β1 H1 T1 q1 x1 g1
  | isNil x lp p =>
    replace ok := (show ME.ok N sc _ = true from ok)
    obtain ⟨⟨a, h1⟩, e1, e2⟩ := bind_some hs
    obtain ⟨o, e3, e4⟩ := bind_some e2
    cases o with
    | dict => cases e4
    | list vs =>
      cases e4
      cases ht
      refine wpAny_isTrue_Compare1 ?_ rfl
      refine ih x N sc env A₀ A m h _ a ok V₀ hA e1 s β _ E G Fm fun x β1 H1 T1 t1 x1 g1 r1 => ?_
      refine List_ (spliced_nil (wpAny_newObj_type ?_))
      have kp := get?_push_keep (H := H1) { cls := .type "list", data := .seq #[] }
      refine nil_sound (s := { s with heap := H1.push { cls := .type "list", data := .seq #[] }, toks := T1 }) ok0 hA (g1.grow kp) e3 r1 ⟨_, Heap.get?_push_size _ rfl, rfl, 0, rfl⟩ ?_
      exact wpAny_truthy_bool (k β1 _ T1 t1 (x1.trans (Ext.grow kp)) (g1.grow kp))
  | not x p =>
    replace ok := (show ME.ok N sc _ = true from ok)
    obtain ⟨⟨a, h1⟩, e1, e2⟩ := bind_some hs
    obtain ⟨t1, e3, e4⟩ := map_some e2
    cases e4
    cases ht
    exact isTrue_not (it x N sc env A₀ A m h _ a t1 ok V₀ hA e1 e3 s β _ E G Fm fun β1 H1 T1 q1 x1 g1 => k β1 H1 T1 q1 x1 g1)
  | ite t1 b o p =>
    replace ok := (show (_ && _) = true from ok)
    simp only [Bool.and_eq_true] at ok
    obtain ⟨⟨a, h1⟩, e1, e2⟩ := bind_some hs
    obtain ⟨c, e3, e4⟩ := bind_some e2
    refine isTrue_IfExp (it t1 N sc env A₀ A m h h1 a c ok.1.1 V₀ hA e1 e3 s β _ E G Fm fun β1 H1 T1 q1 x1 g1 => ?_)
    cases c with
    | true => exact it b N sc env A₀ A m h1 h' v t ok.1.2 V₀ hA e4 ht { s with heap := H1, toks := T1 } β1 _ E g1 (Fm.ext x1 q1) (k' q1 x1)
    | false => exact it o N sc env A₀ A m h1 h' v t ok.2 V₀ hA e4 ht { s with heap := H1, toks := T1 } β1 _ E g1 (Fm.ext x1 q1) (k' q1 x1)
  | dict sp ks vs p => cases sp <;> exact plain rfl
  | _ => exact plain rfl
end
end Mine

end

section
open PySem PySem.Calls PyProof.Rows PySem.W
namespace Mine

/-- how a statement leaves the heap: its own frame may turn -/
structure ExtF (A₀ : Pf) (β : List Addr) (H : Heap) (β' : List Addr) (H' : Heap) : Prop where
  pre : Pre β β'
  keep : ∀ b o, b ∉ β → ¬ A₀.own b → H.get? b = some o → H'.get? b = some o ∧ b ∉ β'
theorem ExtF.refl (A₀ : Pf) (β : List Addr) (H : Heap) : ExtF A₀ β H β H := ⟨Pre.refl β, fun _ _ n _ e => ⟨e, n⟩⟩
theorem ExtF.trans {A₀ : Pf} {a b c : List Addr} {H₁ H₂ H₃ : Heap} (x : ExtF A₀ a H₁ b H₂) (y : ExtF A₀ b H₂ c H₃) : ExtF A₀ a H₁ c H₃ :=
  ⟨x.pre.trans y.pre, fun q o n m e => let ⟨e1, n1⟩ := x.keep q o n m e; y.keep q o n1 m e1⟩
theorem Ext.toF {A₀ : Pf} {a b : List Addr} {H₁ H₂ : Heap} (x : Ext a H₁ b H₂) : ExtF A₀ a H₁ b H₂ := ⟨x.pre, fun q o n _ e => x.keep q o n e⟩

noncomputable def FlR (L : Pl) (β : List Addr) (T : Nat) : Fl → Flow → Prop
  | .next, f => f = .next
  | .brk, f => f = .brk
  | .cont, f => f = .cont
  | .ret v, f => ∃ x, f = .ret x ∧ VR L β T v x

noncomputable def PstX (C : Cx) (N : Nm) (A₀ : Pf) (s : Shared) (β : List Addr) (f : Fl) (m' : M) (h' : Hp) (Q : Flow → Shared → Prop) : Prop :=
  ∀ x β' H' T', s.toks ≤ T' → ExtF A₀ β s.heap β' H' → Gd C.w C.L C.G β' T' h' H' → Frm C.L C.G N β' T' m' A₀ H' → FlR C.L β' T' f x → Q x { s with heap := H', toks := T' }

noncomputable def SEx (C : Cx) (S : Sm) (d : Nat) : Prop :=
  ∀ (b : MSs) (N : Nm) (sc : Scope) (env : Env) (A₀ : Pf) (A : Around) (m m' : M) (h h' : Hp) (f : Fl), b.ok N sc = true → EnvOk C N sc env A₀ → AOk A d → S.ex b m h = some (f, m', h') →
  ∀ (s : Shared) (β : List Addr) (Q : Flow → Shared → Prop) (E : Value → Shared → Prop), Gd C.w C.L C.G β s.toks h s.heap → Frm C.L C.G N β s.toks m A₀ s.heap → PstX C N A₀ s β f m' h' Q → wpAny (model C.prog C.w) A (execs (b.back N) env) Q E s

section
variable {C : Cx} {N : Nm} {sc : Scope} {env : Env} {A₀ : Pf} {A : Around} {d : Nat} {m m' : M} {h h' : Hp} {f : Fl} {s : Shared} {β : List Addr} {Q : Flow → Shared → Prop} {E : Value → Shared → Prop} {S : Sm}

theorem PstX.step {β' : List Addr} {H' : Heap} {T' : Nat} (P : PstX C N A₀ s β f m' h' Q) (ht : s.toks ≤ T') (x : ExtF A₀ β s.heap β' H') : PstX C N A₀ { s with heap := H', toks := T' } β' f m' h' Q :=
  fun y β'' H'' T'' ht' x' g F r => P y β'' H'' T'' (Nat.le_trans ht ht') (x.trans x') g F r

theorem noSwap {N : Nm} {t : Option Expr} {l : Nat} : ∀ e : ME, e.noComp = true → swapsWith (e.back N) t l env = pure false := by
  intro e he
  cases e <;> first | rfl | (exact absurd he Bool.false_ne_true) | (rename_i sp ks vs p; cases sp <;> rfl)

theorem ns_not_cell {H : Heap} {a : Addr} {f : Str → Option Value} {w : Option Value} (h1 : H.Ns a f) (h2 : H.IsCell a w) : False := by
  obtain ⟨o, es, ep, ho, r⟩ := h1
  obtain ⟨o', ho', hd⟩ := h2
  rw [ho] at ho'
  cases ho'
  simp [hd] at r
theorem okSlot_C {i : Nat} (ok : okSlot N sc i = true) : okSlotC N sc i = true := by
  simp only [okSlot, okSlotC, Bool.and_eq_true, Bool.or_eq_true] at ok ⊢
  exact ⟨ok.1, .inl ok.2⟩
theorem getD_set {m : M} {i j : Nat} {v u : V} (e : (m.set i (some v)).getD j none = some u) : (j = i ∧ u = v) ∨ (j ≠ i ∧ m.getD j none = some u) := by
  by_cases h : j = i
  · subst h
    refine .inl ⟨rfl, ?_⟩
    rw [List.getD_eq_getElem?_getD, List.getElem?_set_self'] at e
    cases hm : m[j]? with
    | none => rw [hm] at e; simp at e
    | some w => rw [hm] at e; simpa using e.symm
  · refine .inr ⟨h, ?_⟩
    rw [List.getD_eq_getElem?_getD, List.getElem?_set_ne (Ne.symm h), ← List.getD_eq_getElem?_getD] at e
    exact e
theorem slot_inj {i j : Nat} (nd : N.slots.Nodup) (hi : i < N.slots.length) (hj : j < N.slots.length) (e : N.slots.getD i default = N.slots.getD j default) : i = j := by
  rw [List.getD_eq_getElem?_getD, List.getD_eq_getElem?_getD, List.getElem?_eq_getElem hi, List.getElem?_eq_getElem hj] at e
  exact (List.getElem_inj nd).mp e
/-- a store into a name -/
theorem store_sound {i : Nat} {x : Value} {v : V} {Q : Unit → Shared → Prop} (V₀ : EnvOk C N sc env A₀) (ok : okSlotC N sc i = true) (G : Gd C.w C.L C.G β s.toks h s.heap) (Fm : Frm C.L C.G N β s.toks m A₀ s.heap) (r : VR C.L β s.toks v x)
    (k : ∀ H' T', s.toks ≤ T' → ExtF A₀ β s.heap β H' → Gd C.w C.L C.G β T' h H' → Frm C.L C.G N β T' (m.set i (some v)) A₀ H' → Q () { s with heap := H', toks := T' }) :
    wpAny (model C.prog C.w) A (storeName env (N.slots.getD i default) x) Q E s := by
  simp only [okSlotC, Bool.and_eq_true, Bool.or_eq_true, decide_eq_true_eq, beq_iff_eq] at ok
  obtain ⟨hi, hk⟩ := ok
  obtain ⟨⟨fm, hn, l⟩, cl, out, new⟩ := Fm
  rcases hk with hk | hk
  · refine wpAny_storeName_local (by unfold Env.kindOf; rw [V₀.scp]; exact hk) (by rw [V₀.loc]; exact hn) (fun H' hn' hs' => ?_) (by rw [V₀.scp, V₀.kind]; rfl)
    rw [V₀.loc] at hn' hs'
    have hk' : ∀ b o, b ≠ A₀.A → s.heap.get? b = some o → H'.get? b = some o := fun b o n e => (hs'.2 b n).trans e
    refine k H' (s.toks + 1) (Nat.le_succ _) ⟨Pre.refl _, fun b o n m e => ⟨hk' b o (fun z => m (.inl z)) e, n⟩⟩ ((G.toks (Nat.le_succ _)).but (out _ (.inl rfl)) (new _ (.inl rfl)) hk') ⟨⟨_, hn', fun j u hj e1 e2 e3 => ?_⟩, fun n c hc => ?_, out, new⟩
    · rcases getD_set e1 with ⟨rfl, rfl⟩ | ⟨hne, e1⟩
      · exact ⟨x, by simp, r.mono (Pre.refl _) (Nat.le_succ _)⟩
      · obtain ⟨y, h1, h2⟩ := l j u hj e1 e2 e3
        refine ⟨y, ?_, h2.mono (Pre.refl _) (Nat.le_succ _)⟩
        have : N.slots.getD j default ≠ N.slots.getD i default := fun q => hne (slot_inj V₀.nd hj hi q)
        show (if _ then _ else _) = _
        rw [if_neg this]
        exact h1
    · obtain ⟨w, h1, h2⟩ := cl n c hc
      refine ⟨w, isCell_keep h1 fun o e => hk' c o (fun z => ns_not_cell hn (z ▸ h1)) e, fun j u hj e1 e2 => ?_⟩
      rcases getD_set e2 with ⟨rfl, rfl⟩ | ⟨hne, e2⟩
      · have := V₀.kl _ hk
        rw [e1, hc] at this
        cases this
      · obtain ⟨y, h3, h4⟩ := h2 j u hj e1 e2
        exact ⟨y, h3, h4.mono (Pre.refl _) (Nat.le_succ _)⟩
  · obtain ⟨c, hc⟩ := V₀.kc _ hk
    obtain ⟨w, hw, lw⟩ := cl _ c hc
    refine wpAny_storeName_cell (by rw [V₀.scp]; exact V₀.kind) (by unfold Env.kindOf; rw [V₀.scp]; exact hk) (by rw [V₀.cells]; exact hc) hw fun H' hw' hs' => ?_
    have hk' : ∀ b o, b ≠ c → s.heap.get? b = some o → H'.get? b = some o := fun b o n e => (hs'.2 b n).trans e
    refine k H' s.toks (Nat.le_refl _) ⟨Pre.refl _, fun b o n m e => ⟨hk' b o (fun z => m (.inr ⟨_, z ▸ hc⟩)) e, n⟩⟩ (G.but (out _ (.inr ⟨_, hc⟩)) (new _ (.inr ⟨_, hc⟩)) hk') ⟨⟨fm, ns_keep hn fun o e => hk' _ o (fun z => ns_not_cell hn (z ▸ hw)) e, fun j u hj e1 e2 e3 => ?_⟩, fun n c' hc' => ?_, out, new⟩
    · rcases getD_set e1 with ⟨rfl, rfl⟩ | ⟨hne, e1⟩
      · rw [hc] at e3; cases e3
      · exact l j u hj e1 e2 e3
    · by_cases hcc : c' = c
      · subst hcc
        refine ⟨some x, hw', fun j u hj e1 e2 => ?_⟩
        rcases getD_set e2 with ⟨rfl, rfl⟩ | ⟨hne, e2⟩
        · exact ⟨x, rfl, r⟩
        · exfalso
          have := V₀.apart _ _ _ hc' hc
          exact hne (slot_inj V₀.nd hj hi (e1.trans this))
      · obtain ⟨w', h1, h2⟩ := cl n c' hc'
        refine ⟨w', isCell_keep h1 fun o e => hk' c' o hcc e, fun j u hj e1 e2 => ?_⟩
        rcases getD_set e2 with ⟨rfl, rfl⟩ | ⟨hne, e2⟩
        · rw [← e1, hc] at hc'
          cases hc'
          exact absurd rfl hcc
        · exact h2 j u hj e1 e2

theorem ex_asg {i : Nat} {tp p : Pos} {e : ME} (ih : SEv C S d) (V₀ : EnvOk C N sc env A₀) (hA : AOk A d) (ok : MS.ok N sc (.asg i tp e p) = true) (hs : stepS C.X S (.asg i tp e p) m h = some (f, m', h')) (G : Gd C.w C.L C.G β s.toks h s.heap) (Fm : Frm C.L C.G N β s.toks m A₀ s.heap) (pst : PstX C N A₀ s β f m' h' Q) :
    GX C N env A Q E s (MS.asg i tp e p) := by
  replace ok := (show (_ && _) = true from ok)
  simp only [Bool.and_eq_true] at ok
  obtain ⟨⟨v, h1⟩, e1, e2⟩ := bind_some hs
  cases e2
  refine wpAny_Assign_Name ?_ (noSwap e ok.2)
  refine ih e N sc env A₀ A m h _ v ok.1.2 V₀ hA e1 s β _ E G Fm fun x β1 H1 T1 t1 x1 g1 r1 => ?_
  refine store_sound (s := { s with heap := H1, toks := T1 }) V₀ ok.1.1 g1 (Fm.ext x1 t1) r1 fun H2 T2 t2 x2 g2 f2 => ?_
  exact pst .next β1 H2 T2 (Nat.le_trans t1 t2) (x1.toF.trans x2) g2 f2 rfl

noncomputable def isStar : Expr → Bool
  | .Starred .. => true
  | _ => false
theorem notStar {N : Nm} : ∀ e : ME, isStar (e.back N) = false := by
  intro e
  cases e <;> first | rfl | (rename_i sp ks vs p; cases sp <;> rfl)
noncomputable def selN (env : Env) (l : Nat) : Expr → Option Str
  | .Name id pos => if env.kindOf id == some .local && pos.line == l then some id else none
  | _ => none

theorem swapped_form {x y : Str} {px py tp vp : Pos} {a b : Expr} :
    swappedStores [.Tuple [.Name x px, .Name y py] 0 tp] (.Tuple [a, b] 0 vp) env =
      (if (env.blockKind != .function) = true then pure none else if ([a, b].any isStar) = true then pure none
       else if (([Expr.Name x px, Expr.Name y py].filterMap (selN env px.line)).length != 2 || ([Expr.Name x px, Expr.Name y py].filterMap (selN env px.line)).eraseDups.length != ([Expr.Name x px, Expr.Name y py].filterMap (selN env px.line)).length) = true then pure none
       else if ([a, b].all (foldedForSure 8)) = true then pure none else if ([a, b].all (constantsAlone 8)) = true then (do
         unsupported "assign.tuple-of-constant-expressions:order-of-the-stores"
         pure (some ([Expr.Name x px, Expr.Name y py].filterMap (selN env px.line)))) else pure (some ([Expr.Name x px, Expr.Name y py].filterMap (selN env px.line)))) := by
  rfl

theorem swapped_is {x y : Str} {px py tp vp : Pos} {a b : ME} (hx : env.kindOf x = some .local) (hy : env.kindOf y = some .local) (hl : px.line = py.line) (hxy : (x == y) = false) (hk : env.blockKind = .function) :
    swappedStores [.Tuple [.Name x px, .Name y py] 0 tp] (.Tuple [a.back N, b.back N] 0 vp) env =
      (if (foldedForSure 8 (a.back N) && foldedForSure 8 (b.back N)) = true then pure none else if (constantsAlone 8 (a.back N) && constantsAlone 8 (b.back N)) = true then unsupported "assign.tuple-of-constant-expressions:order-of-the-stores" else pure (some [x, y])) := by
  rw [swapped_form]
  have hn : [Expr.Name x px, Expr.Name y py].filterMap (selN env px.line) = [x, y] := by
    have e1 : selN env px.line (.Name x px) = some x := by show (if (env.kindOf x == some .local && px.line == px.line) = true then some x else none) = _; rw [hx]; simp
    have e2 : selN env px.line (.Name y py) = some y := by show (if (env.kindOf y == some .local && py.line == px.line) = true then some y else none) = _; rw [hy, hl]; simp
    simp [e1, e2]
  have he : ([x, y].eraseDups).length = 2 := by
    have : (y == x) = false := by
      cases e : y == x with
      | false => rfl
      | true => rw [beq_iff_eq.mp e] at hxy; simp at hxy
    simp [List.eraseDups_cons, this]
  have hs : [a.back N, b.back N].any isStar = false := by simp [notStar]
  rw [hn, hs, he, hk]
  simp only [List.all_cons, List.all_nil, Bool.and_true]
  cases (foldedForSure 8 (a.back N) && foldedForSure 8 (b.back N)) <;> cases (constantsAlone 8 (a.back N) && constantsAlone 8 (b.back N)) <;> rfl
end
end Mine

end

section
open PySem PySem.Calls PyProof.Rows PySem.W
namespace Mine
section
variable {C : Cx} {N : Nm} {sc : Scope} {env : Env} {A₀ : Pf} {A : Around} {d : Nat} {m m' : M} {h h' : Hp} {f : Fl} {s : Shared} {β : List Addr} {Q : Flow → Shared → Prop} {E : Value → Shared → Prop} {S : Sm}

theorem extBut_keep {H H' H'' : Heap} (hk : ∀ b o, H.get? b = some o → H'.get? b = some o) (x : Heap.ExtBut H'.objs.size H' H'') : ∀ b o, H.get? b = some o → H''.get? b = some o := by
  intro b o e
  refine x b o (fun z => ?_) (hk b o e)
  have := Heap.lt_size (hk b o e)
  rw [z] at this
  exact absurd this (Nat.lt_irrefl _)

/-- two values stored into two names, in one order or the other -/
theorem store2 {i j : Nat} {x y : Value} {u v : V} {Q : Unit → Shared → Prop} (V₀ : EnvOk C N sc env A₀) (oki : okSlot N sc i = true) (okj : okSlot N sc j = true) (G : Gd C.w C.L C.G β s.toks h s.heap) (Fm : Frm C.L C.G N β s.toks m A₀ s.heap) (ru : VR C.L β s.toks u x) (rv : VR C.L β s.toks v y)
    (k : ∀ H' T', s.toks ≤ T' → ExtF A₀ β s.heap β H' → Gd C.w C.L C.G β T' h H' → Frm C.L C.G N β T' ((m.set i (some u)).set j (some v)) A₀ H' → Q () { s with heap := H', toks := T' }) :
    wpAny (model C.prog C.w) A (storeName env (N.slots.getD i default) x) (fun _ s' => wpAny (model C.prog C.w) A (storeName env (N.slots.getD j default) y) Q E s') E s := by
  refine store_sound V₀ (okSlot_C oki) G Fm ru fun H1 T1 t1 x1 g1 f1 => ?_
  refine store_sound (s := { s with heap := H1, toks := T1 }) V₀ (okSlot_C okj) g1 f1 (rv.mono x1.pre t1) fun H2 T2 t2 x2 g2 f2 => ?_
  exact k H2 T2 (Nat.le_trans t1 t2) (x1.trans x2) g2 f2

theorem ex_asg2 {i j : Nat} {tpi tpj tp vp p : Pos} {a b : ME} (ih : SEv C S d) (V₀ : EnvOk C N sc env A₀) (hA : AOk A d) (ok : MS.ok N sc (.asg2 i j tpi tpj tp a b vp p) = true) (hs : stepS C.X S (.asg2 i j tpi tpj tp a b vp p) m h = some (f, m', h')) (G : Gd C.w C.L C.G β s.toks h s.heap) (Fm : Frm C.L C.G N β s.toks m A₀ s.heap) (pst : PstX C N A₀ s β f m' h' Q) :
    GX C N env A Q E s (MS.asg2 i j tpi tpj tp a b vp p) := by
  replace ok := (show (_ && _) = true from ok)
  simp only [Bool.and_eq_true] at ok
  obtain ⟨⟨⟨⟨⟨⟨oki, okj⟩, hne⟩, hln⟩, oka⟩, okb⟩, hsw⟩ := ok
  have oki' := oki
  have okj' := okj
  simp only [okSlot, Bool.and_eq_true, decide_eq_true_eq, beq_iff_eq] at oki' okj'
  have hne' : (N.slots.getD i default == N.slots.getD j default) = false := by simpa using hne
  have hij : i ≠ j := by
    rintro rfl
    simp at hne'
  obtain ⟨⟨u, h1⟩, e1, e2⟩ := bind_some hs
  obtain ⟨⟨v, h2⟩, e3, e4⟩ := bind_some e2
  cases e4
  have hx : env.kindOf (N.slots.getD i default) = some .local := by unfold Env.kindOf; rw [V₀.scp]; exact oki'.2
  have hy : env.kindOf (N.slots.getD j default) = some .local := by unfold Env.kindOf; rw [V₀.scp]; exact okj'.2
  have hw := swapped_is (N := N) (px := tpi) (py := tpj) (tp := tp) (vp := vp) (a := a) (b := b) hx hy (by simpa using hln) hne' (by unfold Env.blockKind; rw [V₀.scp, V₀.kind]; rfl)
  have he : evs S (.cons a (.cons b .nil)) m h = some ([u, v], h') := by
    show ((S.ev a m h).bind fun (v, h) => (evs S (.cons b .nil) m h).bind fun (vs, h) => some (v :: vs, h)) = _
    rw [e1, Option.bind_some]
    show (((S.ev b m h1).bind fun (v, h) => (evs S .nil m h).bind fun (vs, h) => some (v :: vs, h)).bind _) = _
    rw [e3]; rfl
  have hval : ∀ (Q' : Value → Shared → Prop), (∀ t x y β1 H1 T1, s.toks ≤ T1 → Ext β s.heap β1 H1 → Gd C.w C.L C.G β1 T1 h' H1 → IsTup H1 t #[x, y] → VR C.L β1 T1 u x → VR C.L β1 T1 v y → Q' (.ref t) { s with heap := H1, toks := T1 }) →
      wpAny (model C.prog C.w) A (eval (.Tuple [a.back N, b.back N] 0 vp) env) Q' E s := by
    intro Q' k
    refine Tuple_ ?_
    rw [show [a.back N, b.back N] = (MEs.cons a (.cons b .nil)).back N from rfl, trees]
    refine args_sound ih V₀ hA _ h h' [u, v] (by simp [MEs.ok, oka, okb]) he s β _ E G Fm fun xs β1 H1 T1 t1 x1 g1 r1 => ?_
    obtain ⟨x, xs, rfl⟩ : ∃ x r, xs = x :: r := by cases xs with | nil => exact r1.elim | cons x r => exact ⟨x, r, rfl⟩
    obtain ⟨y, xs, rfl⟩ : ∃ x r, xs = x :: r := by cases xs with | nil => exact r1.2.elim | cons x r => exact ⟨x, r, rfl⟩
    obtain rfl : xs = [] := by cases xs with | nil => rfl | cons => exact r1.2.2.elim
    refine wpAny_newTuple ?_ (by show 2 ≤ sizeLine; rw [sizeLine_eq]; decide)
    refine k _ x y β1 _ T1 t1 (x1.trans (Ext.grow (get?_push_keep _))) (g1.grow (get?_push_keep _)) ⟨_, Heap.get?_push_size _ rfl, rfl, _, rfl⟩ r1.1 r1.2.1
  have fin : ∀ (t1 : Nat) (H1 : Heap) (β1 : List Addr) (m2 : M), m2 = (m.set i (some u)).set j (some v) → s.toks ≤ t1 → Ext β s.heap β1 H1 → ∀ H' T', t1 ≤ T' → ExtF A₀ β1 H1 β1 H' → Gd C.w C.L C.G β1 T' h' H' → Frm C.L C.G N β1 T' m2 A₀ H' → Q .next { s with heap := H', toks := T' } := by
    rintro t1 H1 β1 m2 rfl ht1 x1 H' T' t2 x2 g2 f2
    exact pst .next β1 H' T' (Nat.le_trans ht1 t2) (x1.toF.trans x2) g2 f2 rfl
  by_cases hf : (foldedForSure 8 (a.back N) && foldedForSure 8 (b.back N)) = true
  · rw [if_pos hf] at hw
    refine Assign_Tuple ?_ rfl hw
    refine hval _ fun t x y β1 H1 T1 t1 x1 g1 ht ru rv => ?_
    refine assign_Tuple_tuple hA.hd ht rfl rfl fun H2 q2 => ?_
    have hk := extBut_keep (fun b o e => e) q2
    have x2 := x1.trans (Ext.grow (β := β1) hk)
    have g2 := g1.grow hk
    show wpAny _ _ (assignInOrder [assign (.Name _ tpi) env, assign (.Name _ tpj) env] [x, y]) _ _ _
    refine assignInOrder_cons (assign_Name ?_)
    refine wpAny_mono (store2 (s := { s with heap := H2, toks := T1 }) (Q := fun _ s' => Q .next s') V₀ oki okj g2 (Fm.ext x2 t1) ru rv (fin T1 H2 β1 _ rfl t1 x2)) (fun _ _ q => assignInOrder_cons (assign_Name (wpAny_mono q (fun _ _ q => assignInOrder_nil q) fun _ _ q => q))) fun _ _ q => q
  · rw [if_neg hf] at hw
    have hc : ¬ (constantsAlone 8 (a.back N) && constantsAlone 8 (b.back N)) = true := by
      intro hc
      rw [hc] at hsw
      simp at hsw
      exact hf (by rw [Bool.and_eq_true]; exact hsw)
    rw [if_neg hc] at hw
    refine Assign_Tuple_swapped ?_ rfl hw
    refine hval _ fun t x y β1 H1 T1 t1 x1 g1 ht ru rv => ?_
    have hlen : ([N.slots.getD i default, N.slots.getD j default] : List Str).length = (#[x, y] : Array Value).size := by simp
    rw [hlen]
    refine unpackItems_tuple hA.hd ht fun H2 q2 => ?_
    have hk := extBut_keep (fun b o e => e) q2
    have x2 := x1.trans (Ext.grow (β := β1) hk)
    have g2 := g1.grow hk
    show wpAny _ _ (assignInOrder [fun z => bindName env (N.slots.getD j default) z, fun z => bindName env (N.slots.getD i default) z] [y, x]) _ _ _
    have k2 := store2 (s := { s with heap := H2, toks := T1 }) (Q := fun _ s' => Q .next s') (E := E) (A := A) V₀ okj oki g2 (Fm.ext x2 t1) rv ru (fin T1 H2 β1 _ (List.set_comm _ _ (Ne.symm hij)) t1 x2)
    refine assignInOrder_cons ?_
    show wpAny _ _ (bindName env (N.slots.getD j default) y) _ _ _
    refine bindName_ (wpAny_mono k2 (fun _ s' q => ?_) fun _ _ q => q)
    refine assignInOrder_cons ?_
    show wpAny _ _ (bindName env (N.slots.getD i default) x) _ _ _
    exact bindName_ (wpAny_mono q (fun _ _ q => assignInOrder_nil q) fun _ _ q => q)
end
end Mine

end

section
open PySem PySem.Calls PyProof.Rows PySem.W
namespace Mine
section
variable {C : Cx} {N : Nm} {sc : Scope} {env : Env} {A₀ : Pf} {A : Around} {d : Nat} {m m' : M} {h h' : Hp} {f : Fl} {s : Shared} {β : List Addr} {Q : Flow → Shared → Prop} {E : Value → Shared → Prop} {S : Sm}

theorem adopt_list {ys : List V} {D : Addr} {its : Array Value} {n T : Nat} {H : Heap} (g : Gd C.w C.L C.G β T h H) (hD : D ∉ β) (hG : C.G.get? D = none) (hb : (D == sysModules) = false) (hd : H.get? D = some (lstO its n)) (al : All2 (VR C.L β T) ys its.toList) (le : ys.length ≤ LIM) :
    Gd C.w C.L C.G (β ++ [D]) T (h ++ [.list ys]) H :=
  g.adopt hD hG hb (fun b o _ e => e) hd ⟨⟨_, _, _, _, rfl, al.mono fun _ _ => VR.mono ⟨_, rfl⟩ (Nat.le_refl _), le⟩, rfl⟩
theorem ext_new {β₀ β1 : List Addr} {H₀ H1 : Heap} {D : Addr} (x : Ext β₀ H₀ β1 H1) (h0 : H₀.get? D = none) : Ext β₀ H₀ (β1 ++ [D]) H1 := by
  refine ⟨x.pre.trans ⟨_, rfl⟩, fun b o n e => ?_⟩
  obtain ⟨q1, q2⟩ := x.keep b o n e
  refine ⟨q1, fun hm => ?_⟩
  rcases List.mem_append.mp hm with q | q
  · exact q2 q
  · simp at q
    subst q
    rw [h0] at e
    cases e

theorem ex_asgc {i : Nat} {tp p : Pos} {e : ME} (ok0 : C.Ok) (dn : ∀ (e : ME) (m : M) (h : Hp) r, S.ev e m h = some r → ∃ S', SEv C S' d ∧ STr C S' d ∧ stepE C.X S' e m h = some r) (V₀ : EnvOk C N sc env A₀) (hA : AOk A d) (ok : MS.ok N sc (.asgc i tp e p) = true) (hs : stepS C.X S (.asgc i tp e p) m h = some (f, m', h')) (G : Gd C.w C.L C.G β s.toks h s.heap) (Fm : Frm C.L C.G N β s.toks m A₀ s.heap) (pst : PstX C N A₀ s β f m' h' Q) :
    GX C N env A Q E s (MS.asgc i tp e p) := by
  replace ok := (show (_ && _) = true from ok)
  simp only [Bool.and_eq_true] at ok
  obtain ⟨⟨oki, oke⟩, okw⟩ := ok
  obtain ⟨elt, x, xp, it, t, scope, cp, rfl⟩ : ∃ elt x xp it t scope cp, e = .comp elt x xp it t scope cp := by
    cases e <;> first | exact ⟨_, _, _, _, _, _, _, rfl⟩ | (exact absurd okw Bool.false_ne_true)
  obtain ⟨⟨v, h1⟩, e0, hs⟩ := bind_some hs
  cases hs
  obtain ⟨S', ih, itr, e0'⟩ := dn _ _ _ _ e0
  replace oke := (show (_ && _) = true from oke)
  simp only [Bool.and_eq_true] at oke
  obtain ⟨⟨⟨okc, oki2⟩, oke⟩, okt⟩ := oke
  have K := compOk_inv okc
  obtain ⟨⟨a, h1⟩, e1, hs⟩ := bind_some e0'
  obtain ⟨⟨vs, chk, h2⟩, e2, hs⟩ := bind_some hs
  dsimp only at hs
  have oki' := oki
  simp only [okSlot, Bool.and_eq_true, decide_eq_true_eq, beq_iff_eq] at oki'
  have hsw : swapsWith (.ListComp (elt.back N) [⟨.Name (N.slots.getD x default) xp, it.back N, t.tests N, 0⟩] scope cp) (some (.Name (N.slots.getD i default) tp)) p.line env = pure true := by
    show (pure (env.blockKind == .function && env.kindOf (N.slots.getD i default) == some .local && tp.line == cp.line && !(scope.names.any fun (n, k) => n == N.slots.getD i default && (k == .local || k == .cell))) : Sem Bool) = pure true
    have h1 : env.blockKind = .function := by unfold Env.blockKind; rw [V₀.scp, V₀.kind]; rfl
    have h2 : env.kindOf (N.slots.getD i default) = some .local := by unfold Env.kindOf; rw [V₀.scp]; exact oki'.2
    replace okw := (show (_ && _) = true from okw)
    rw [Bool.and_eq_true] at okw
    rw [h1, h2, okw.1, okw.2]
    rfl
  by_cases hlen : vs.length ≤ LIM
  · rw [if_pos hlen] at hs
    obtain ⟨⟨ys, h3⟩, e3, hs⟩ := map_some hs
    cases hs
    show wpAny _ _ (exec (.Assign [.Name (N.slots.getD i default) tp] (.ListComp (elt.back N) [⟨.Name (N.slots.getD x default) xp, it.back N, t.tests N, 0⟩] scope cp) p) env) Q E s
    rw [exec_Assign_Name_used _ _ _ _ hsw]
    refine wpAny_bind (wpAny_standAt (wpAny_bind ?_))
    show wpAny _ A (do let _ ← comprehension (.ListComp (elt.back N) [⟨.Name (N.slots.getD x default) xp, it.back N, t.tests N, 0⟩] scope cp) scope env _ (newList []) false (eval (it.back N) env) (some (assign (.Name (N.slots.getD i default) tp) env))) _ _ s
    refine wpAny_bind (wpAny_mono (wpAny_comprehension_free (use := some (assign (.Name (N.slots.getD i default) tp) env)) (Q := fun _ s' => Q .next s') rfl (fun _ => notSet it) (closure_is (comp_free K V₀)) K.kind (fun y hy e => by obtain ⟨a, b⟩ := y; exact K.lookup (show (a, NameKind.local) ∈ _ from (show b = .local from e) ▸ hy)) ?_)
      (fun _ s' hq => wpAny_pure (wpAny_pure hq)) fun _ _ e => e)
    refine iter_plain (h' := h2) (vs := vs) (chk := chk) ok0 ih V₀ hA oki2 (by rw [e1]; exact e2) G Fm fun I o St β1 H1 T1 t1 hI hG hne hI0 x1 g1 f1 ho hst hit hSt => ?_
    refine comp_block (s := { s with heap := H1, toks := T1 }) (β₀ := β) (H₀ := s.heap) (T₀ := s.toks) ih itr V₀ hA K oke okt hit hlen hI hG hne hI0 x1 t1 g1 f1 ho hst e3 fun D Cc ap hb β' H' T' its n fC t' x' g' f' hD' hC' hns hd al le => ?_
    have g2 := adopt_list g' hD' ap.gd hb hd al le
    have x2 := ext_new x' ap.d0
    have f2 : Frm C.L C.G N (β' ++ [D]) T' m A₀ H' := f'.keep ⟨_, rfl⟩ (Nat.le_refl _) fun a o ha e => ⟨e, fun hm => by
      rcases List.mem_append.mp hm with q | q
      · exact f'.out a ha q
      · simp at q; exact ap.ad (q ▸ ha)⟩
    have hC2 : Cc ∉ β' ++ [D] := fun hm => by
      rcases List.mem_append.mp hm with q | q
      · exact hC' q
      · simp at q; exact ap.dc q.symm
    show wpAny _ A (assign (.Name (N.slots.getD i default) tp) env (.ref D)) _ _ _
    refine wpAny_assign_Name (store_sound (s := { s with heap := H', toks := T' }) (v := .ref h3.length) V₀ (okSlot_C oki) g2 f2 ⟨D, by rw [← g'.len]; simp, rfl⟩ fun H2 T2 t2 x3 g3 f3 => ?_)
    obtain ⟨oC, esC, epC, hoC, rC⟩ := hns
    have kC := (x3.keep Cc oC hC2 ap.ac hoC).1
    refine ⟨fC, ⟨oC, esC, epC, kC, rC⟩, fun H'' hs'' => ?_⟩
    have hk : ∀ b q, b ≠ Cc → H2.get? b = some q → H''.get? b = some q := fun b q n e => (hs''.2 b n).trans e
    refine pst .next (β' ++ [D]) H'' T2 (Nat.le_trans t' t2) ⟨(x2.toF.trans x3).pre, fun b o n m e => ?_⟩ (g3.but hC2 ap.gc hk) (f3.but ap.ac hk) rfl
    obtain ⟨q1, q2⟩ := (x2.toF.trans x3).keep b o n m e
    exact ⟨hk b o (fun z => by rw [z, ap.c0] at e; cases e) q1, q2⟩
  · rw [if_neg hlen] at hs
    cases hs
end
end Mine

end

section
open PySem PySem.Calls PyProof.Rows PySem.W
namespace Mine
section
variable {C : Cx} {N : Nm} {sc : Scope} {env : Env} {A₀ : Pf} {A : Around} {d : Nat} {m m' : M} {h h' : Hp} {f : Fl} {s : Shared} {β : List Addr} {Q : Flow → Shared → Prop} {E : Value → Shared → Prop} {S : Sm}

theorem setItem_at {d : Addr} {ents : List DictEntry} {ep : Nat} {k : List Nat} {t : Tok} {x : Value} {Q : Unit → Shared → Prop} (ho : s.heap.get? d = some (dictO ents ep)) (hk : ∀ e ∈ ents, ∃ k, Value.isStrOf k e.key = true ∧ e.hash = hashStr C.w k)
    (hsz : ents.length ≤ LIM)
    (k1 : ∀ H', H'.get? d = some (dictO (putD k t (hashStr C.w ⟨k.toArray⟩) x ents) (if (ents.findIdx? fun e => Value.isStrOf ⟨k.toArray⟩ e.key) = none then ep + 1 else ep)) → Heap.SameBut d s.heap H' → Q () { s with heap := H', toks := s.toks + 1 }) :
    wpAny (model C.prog C.w) A (setItem (.ref d) (.str ⟨k.toArray⟩ t) x) Q E s := by
  have hT : s.TypeIs (.ref d) "dict" := ⟨_, ho, rfl⟩
  unfold setItem
  try with_reducible refine wpAny_holding ?_
  refine wpAny_bind (wpAny_sequenceKey hT (by decide) ?_)
  refine wpAny_bind (wpAny_callSpecial?_slot (name := Str.ofString "__setitem__") hT slot_dict_setitem
    (wpAny_call_entry slot_dict_setitem hT entry_dict_setitem ?_ (args_dict_setitem _ _ _)))
  show wpAny _ _ (Builtin.Dict.notOrdered "__setitem__" ⟨[.ref d, .str ⟨k.toArray⟩ t, x], []⟩ >>= _) _ _ s
  refine wpAny_bind (wpAny_notOrdered_dict hT ?_)
  show wpAny _ _ (dictSet d (.str ⟨k.toArray⟩ t) x >>= _) _ _ s
  exact wpAny_bind (dictSet_at ho hk hsz fun H' a b => wpAny_pure ⟨.none, rfl, wpAny_pure (k1 H' a b)⟩)
theorem setD_inv {rp : Bool} {r : Nat} {k : List Nat} {v : V} (e : setD rp h r k v = some h') : ∃ rep ep es, h[r]? = some (.dict rep ep es) ∧ es.length < 1000 ∧ (keyIn k es).isNone = true ∧ h' = h.set r (.dict (rep && rp) (ep + 1) (es ++ [(k, v)])) := by
  unfold setD at e
  split at e
  · rename_i rep ep es hr
    split at e
    · rename_i hc
      cases e
      exact ⟨rep, ep, es, hr, hc.1, hc.2, rfl⟩
    · cases e
  · cases e
theorem keyIn_none {k : List Nat} {es : List (List Nat × V)} (e : (keyIn k es).isNone = true) : k ∉ es.map (·.1) := by
  intro hm
  obtain ⟨p, hp, rfl⟩ := List.mem_map.mp hm
  unfold keyIn at e
  rw [Option.isNone_iff_eq_none, Option.map_eq_none_iff, List.find?_eq_none] at e
  exact e p hp (by simp)
theorem sets_core {o : Addr} {r : Nat} {rep rp : Bool} {ep : Nat} {es : List (List Nat × V)} {k : List Nat} {v : V} {x : Value} {t : Tok} {Q : Unit → Shared → Prop} (ha : β[r]? = some o) (hr : h[r]? = some (.dict rep ep es)) (G : Gd C.w C.L C.G β s.toks h s.heap)
    (hlen : es.length < 1000) (hnew : (keyIn k es).isNone = true) (t0 : 0 < t) (t1 : t < s.toks) (hk : k.length ≤ LIM) (rv : VR C.L β s.toks v x) (hrep : rp = true → ∀ y u, x = .str y u → u ≠ t)
    (k1 : ∀ H', Ext β s.heap β H' → Gd C.w C.L C.G β (s.toks + 1) (h.set r (.dict (rep && rp) (ep + 1) (es ++ [(k, v)]))) H' → Q () { s with heap := H', toks := s.toks + 1 }) :
    wpAny (model C.prog C.w) A (setItem (.ref o) (.str ⟨k.toArray⟩ t) x) Q E s := by
  obtain ⟨ob, hob, ⟨ents', rfl, al, nd, le⟩, _⟩ := G.objs r _ o hr ha
  obtain ⟨ents, rfl⟩ : ∃ l : List DictEntry, ents' = l.toArray := ⟨ents'.toList, by simp⟩
  have al' : All2 (ER C.w C.L β s.toks rep) es ents := by simpa using al
  have hl := al'.length
  have hnk := keyIn_none hnew
  have hi := nokey_idx al' hnk
  refine setItem_at (ep := ep) (ents := ents) hob (keys_dict al') (by unfold LIM; omega) fun H' q1 q2 => ?_
  rw [if_pos hi, putD_new hi] at q1
  have g1 := (G.toks (Nat.le_succ _)).update (o' := .dict (rep && rp) (ep + 1) (es ++ [(k, v)])) ha (fun b o n e => (q2.2 b n).trans e) q1 ⟨⟨_, rfl, ?_, ?_, ?_⟩, rfl⟩
  · exact k1 H' g1.2 g1.1
  · show All2 _ _ (ents ++ [_])
    refine All2.append (al'.mono fun _ _ q => ER_weak (Pre.refl _) (Nat.le_succ _) (fun z => by revert z; cases rep <;> simp) q) ⟨⟨t, rfl, rfl, rv.mono (Pre.refl _) (Nat.le_succ _), t0, Nat.lt_succ_of_lt t1, hk, fun z => hrep (by revert z; cases rp <;> simp)⟩, trivial⟩
  · rw [List.map_append, List.nodup_append]
    refine ⟨nd, by simp, fun a ha b hb e => ?_⟩
    simp at hb
    exact hnk (hb ▸ e ▸ ha)
  · rw [List.length_append]
    show es.length + 1 ≤ LIM
    unfold LIM
    omega

theorem ex_sets {o i e : ME} {tp p : Pos} (ok0 : C.Ok) (ih : SEv C S d) (hev : ∀ (c : C0) (p : Pos) (m : M) (h : Hp) r, S.ev (.cst c p) m h = some r → r = (c.val, h))
    (hlo : ∀ (i : Nat) (p : Pos) (m : M) (h : Hp) r, S.ev (.loc i p) m h = some r → stepE C.X S (.loc i p) m h = some r)
    (V₀ : EnvOk C N sc env A₀) (hA : AOk A d) (ok : MS.ok N sc (.sets o i tp e p) = true) (hs : stepS C.X S (.sets o i tp e p) m h = some (f, m', h')) (G : Gd C.w C.L C.G β s.toks h s.heap) (Fm : Frm C.L C.G N β s.toks m A₀ s.heap) (pst : PstX C N A₀ s β f m' h' Q) :
    GX C N env A Q E s (MS.sets o i tp e p) := by
  replace ok := (show (_ && _) = true from ok)
  simp only [Bool.and_eq_true] at ok
  obtain ⟨⟨⟨oko, oki⟩, oke⟩, okn⟩ := ok
  obtain ⟨⟨v, h1⟩, e1, hs⟩ := bind_some hs
  obtain ⟨⟨a, h2⟩, e2, hs⟩ := bind_some hs
  obtain ⟨⟨k', h3⟩, e3, hs⟩ := bind_some hs
  obtain ⟨r, rfl⟩ : ∃ r, a = .ref r := by cases a <;> first | exact ⟨_, rfl⟩ | (exfalso; cases hs)
  obtain ⟨k, rfl⟩ : ∃ k, k' = .str k := by cases k' <;> first | exact ⟨_, rfl⟩ | (exfalso; cases hs)
  obtain ⟨h4, e4, hs⟩ := map_some hs
  cases hs
  obtain ⟨rep, ep, es, hr, hlen, hnew, rfl⟩ := setD_inv e4
  refine wpAny_Assign_Subscript ?_ (noSwap e okn)
  by_cases hc : constSet o i e = true
  · obtain ⟨j, p1, k0, p2, x0, p3, rfl, rfl, rfl⟩ : ∃ j p1 k0 p2 x0 p3, o = .loc j p1 ∧ i = .cst (.str k0) p2 ∧ e = .cst (.str x0) p3 := by
      unfold constSet at hc
      split at hc
      · exact ⟨_, _, _, _, _, _, rfl, rfl, rfl⟩
      · cases hc
    have q1 := hev _ _ _ _ _ e1
    have q3 := hev _ _ _ _ _ e3
    injection q1 with q1a q1b
    injection q3 with q3a q3b
    subst q1b q3b
    have hk0 : k = lit k0 := by injection q3a
    subst hk0 q1a
    have l1 : (lit x0).length ≤ LIM := by have := of_decide_eq_true (show decide ((lit x0).length ≤ 1000) = true from oke); unfold LIM; omega
    have l2 : (lit k0).length ≤ LIM := by have := of_decide_eq_true (show decide ((lit k0).length ≤ 1000) = true from oki); unfold LIM; omega
    refine Constant_str ?_
    refine ev_loc (s := { s with toks := s.toks + 1 }) V₀ oko (hlo _ _ _ _ _ e2) (G.toks (Nat.le_succ _)) (Fm.toks (Nat.le_succ _)) fun y β1 H1 T1 t1 x1 g1 r1 => ?_
    obtain ⟨ad, had, rfl⟩ := r1
    refine Constant_str (s := { s with heap := H1, toks := T1 }) ?_
    have t2 : s.toks < T1 := t1
    refine sets_core (s := { s with heap := H1, toks := T1 + 1 }) (rp := constSet (.loc j p1) (.cst (.str k0) p2) (.cst (.str x0) p3)) (t := T1) (k := lit k0) (v := C0.val (.str x0)) had hr (g1.toks (Nat.le_succ _)) hlen hnew g1.pos (Nat.lt_succ_self _) l2
      (vr_lit x0 G.pos (Nat.lt_succ_of_lt t2) l1) (fun _ y u q => by cases q; exact Nat.ne_of_lt t2) fun H' x2 g2 => ?_
    have tt : s.toks ≤ T1 + 1 + 1 := Nat.le_trans (Nat.le_of_lt t2) (Nat.le_trans (Nat.le_succ _) (Nat.le_succ _))
    exact pst .next β1 H' _ tt (x1.trans x2).toF g2 (Fm.ext (x1.trans x2) tt) rfl
  · refine ih e N sc env A₀ A m h h1 v oke V₀ hA e1 s β _ E G Fm fun x β1 H1 T1 t1 x1 g1 r1 => ?_
    refine ih o N sc env A₀ A m h1 h2 (.ref r) oko V₀ hA e2 { s with heap := H1, toks := T1 } β1 _ E g1 (Fm.ext x1 t1) fun y β2 H2 T2 t2 x2 g2 r2 => ?_
    refine ih i N sc env A₀ A m h2 h3 (.str k) oki V₀ hA e3 { s with heap := H2, toks := T2 } β2 _ E g2 (Fm.ext (x1.trans x2) (Nat.le_trans t1 t2)) fun z β3 H3 T3 t3 x3 g3 r3 => ?_
    obtain ⟨ad, had, rfl⟩ := r2
    obtain ⟨t, rfl, t0, t9, hkl⟩ := r3
    refine sets_core (s := { s with heap := H3, toks := T3 }) (rp := constSet o i e) (x3.pre.get had) hr g3 hlen hnew t0 t9 hkl (r1.mono (x2.pre.trans x3.pre) (Nat.le_trans t2 t3)) (fun z => absurd z hc) fun H' x4 g4 => ?_
    have tt : s.toks ≤ T3 + 1 := Nat.le_trans t1 (Nat.le_trans t2 (Nat.le_trans t3 (Nat.le_succ _)))
    exact pst .next β3 H' _ tt (((x1.trans x2).trans x3).trans x4).toF g4 (Fm.ext (((x1.trans x2).trans x3).trans x4) tt) rfl

theorem appL_inv {r : Nat} {v : V} (e : appL h r v = some h') : ∃ vs, h[r]? = some (.list vs) ∧ vs.length < LIM ∧ h' = h.set r (.list (vs ++ [v])) := by
  unfold appL at e
  split at e
  · rename_i vs hr
    split at e
    · cases e; exact ⟨vs, hr, by assumption, rfl⟩
    · cases e
  · cases e
theorem isL_inv {r : Nat} (e : isL h r = true) : ∃ vs, h[r]? = some (.list vs) := by
  unfold isL at e
  split at e
  · rename_i vs hr; exact ⟨vs, hr⟩
  · cases e
theorem OR.isPlain {w : World} {L : Pl} {T : Nat} {vs : List V} {ob : Obj} {H : Heap} {a : Addr} (q : H.get? a = some ob) (r : ORd w L β T (.list vs) ob) : ∃ items, PlainL H a items ∧ All2 (VR L β T) vs items.toList ∧ vs.length ≤ LIM := by
  obtain ⟨⟨items, n, d, sl, rfl, al, le⟩, hd⟩ := r
  exact ⟨items, ⟨_, n, q, rfl, hd, rfl⟩, al, le⟩
theorem plain_ord {w : World} {L : Pl} {T : Nat} {vs : List V} {H : Heap} {a : Addr} {items : Array Value} (p : PlainL H a items) (al : All2 (VR L β T) vs items.toList) (le : vs.length ≤ LIM) : ∃ ob, H.get? a = some ob ∧ ORd w L β T (.list vs) ob := by
  obtain ⟨⟨c, d, dt, sl⟩, n, q, hc, hd, hdt⟩ := p
  simp only at hc hd hdt
  subst hc hd hdt
  exact ⟨_, q, ⟨_, _, _, _, rfl, al, le⟩, rfl⟩

theorem ex_app {o e : ME} {ap cp p : Pos} (ih : SEv C S d) (V₀ : EnvOk C N sc env A₀) (hA : AOk A d) (ok : MS.ok N sc (.app o e ap cp p) = true) (hs : stepS C.X S (.app o e ap cp p) m h = some (f, m', h')) (G : Gd C.w C.L C.G β s.toks h s.heap) (Fm : Frm C.L C.G N β s.toks m A₀ s.heap) (pst : PstX C N A₀ s β f m' h' Q) :
    GX C N env A Q E s (MS.app o e ap cp p) := by
  replace ok := (show (_ && _) = true from ok)
  simp only [Bool.and_eq_true] at ok
  obtain ⟨⟨⟨oko, oke⟩, okl⟩, okn⟩ := ok
  obtain ⟨⟨a, h1⟩, e1, hs⟩ := bind_some hs
  obtain ⟨r, rfl⟩ : ∃ r, a = .ref r := by cases a <;> first | exact ⟨_, rfl⟩ | (exfalso; cases hs)
  obtain ⟨hL, hs⟩ : isL h1 r = true ∧ ((S.ev e m h1).bind fun (v, h) => (appL h r v).map fun h => (Fl.next, m, h)) = some (f, m', h') := by
    by_cases hL : isL h1 r = true
    · exact ⟨hL, (if_pos hL).symm.trans hs⟩
    · exact absurd ((if_neg hL).symm.trans hs) (by simp)
  obtain ⟨⟨v, h2⟩, e2, hs⟩ := bind_some hs
  obtain ⟨h4, e4, hs⟩ := map_some hs
  cases hs
  obtain ⟨vs, hr, hlen, rfl⟩ := appL_inv e4
  obtain ⟨vs0, hr0⟩ := isL_inv hL
  refine wpAny_Expr_any ?_ (by unfold interactive; rw [V₀.scp, V₀.kind]; rfl)
  have ht : backTo cp (starEach [e.back N] env) = [(false, eval (e.back N) env)] := trees cp (.cons e .nil)
  refine wpAny_Call_append (base_plain (by cases o <;> first | rfl | (exact absurd okn Bool.false_ne_true))) (by rw [ht]; rfl) okl ht ?_
  refine ih o N sc env A₀ A m h h1 (.ref r) oko V₀ hA e1 s β _ E G Fm fun y β1 H1 T1 t1 x1 g1 r1 => ?_
  obtain ⟨ad, had, rfl⟩ := r1
  obtain ⟨ob0, hob0, rr0⟩ := g1.objs r _ ad hr0 had
  obtain ⟨items0, hp0, _⟩ := OR.isPlain hob0 rr0
  refine ⟨ad, items0, rfl, hp0, ?_⟩
  refine ih e N sc env A₀ A m h1 h2 v oke V₀ hA e2 { s with heap := H1, toks := T1 } β1 _ E g1 (Fm.ext x1 t1) fun y β2 H2 T2 t2 x2 g2 r2 => ?_
  have had' := x2.pre.get had
  obtain ⟨ob, hob, rr⟩ := g2.objs r _ ad hr had'
  obtain ⟨items, hp, al, le⟩ := OR.isPlain hob rr
  have hz : items.size = vs.length := by rw [← Array.length_toList, al.length]
  refine list_append_plainL (s := { s with heap := H2, toks := T2 }) hp (fun H' q1 q2 => ?_) (by rw [hz, sizeLine_eq]; unfold LIM at le; omega)
  have al' : All2 (VR C.L β2 T2) (vs ++ [v]) (items.push y).toList := by
    rw [Array.toList_push]
    exact All2.append al ⟨r2, trivial⟩
  obtain ⟨ob', hob', rr'⟩ := plain_ord (w := C.w) q1 al' (by rw [List.length_append]; exact hlen)
  have g4 := g2.update had' (fun b o n e => (q2.2 b n).trans e) hob' rr'
  have x3' := x1.trans x2
  have tt := Nat.le_trans t1 t2
  exact pst .next β2 H' _ tt (x3'.toF.trans g4.2.toF) g4.1 ((Fm.ext x3' tt).ext g4.2 (Nat.le_refl _)) rfl

end
end Mine

end

section
open PySem PySem.Calls PyProof.Rows PySem.W
namespace Mine
section
variable {C : Cx} {N : Nm} {sc : Scope} {env : Env} {A₀ : Pf} {A : Around} {d : Nat} {m m' : M} {h h' : Hp} {f : Fl} {s : Shared} {β : List Addr} {Q : Flow → Shared → Prop} {E : Value → Shared → Prop} {S : Sm}

theorem ex_ret {e : ME} {p : Pos} (ih : SEv C S d) (V₀ : EnvOk C N sc env A₀) (hA : AOk A d) (ok : MS.ok N sc (.ret e p) = true) (hs : stepS C.X S (.ret e p) m h = some (f, m', h')) (G : Gd C.w C.L C.G β s.toks h s.heap) (Fm : Frm C.L C.G N β s.toks m A₀ s.heap) (pst : PstX C N A₀ s β f m' h' Q) :
    GX C N env A Q E s (MS.ret e p) := by
  replace ok := (show ME.ok N sc _ = true from ok)
  obtain ⟨⟨v, h1⟩, e1, e2⟩ := bind_some hs
  cases e2
  refine wpAny_Return_some ?_
  refine ih e N sc env A₀ A m h _ v ok V₀ hA e1 s β _ E G Fm fun x β1 H1 T1 t1 x1 g1 r1 => ?_
  exact pst _ β1 H1 T1 t1 x1.toF g1 (Fm.ext x1 t1) ⟨x, rfl, r1⟩

theorem ex_ite {t : ME} {b o : MSs} {p : Pos} (ih : STr C S d) (ix : SEx C S d) (V₀ : EnvOk C N sc env A₀) (hA : AOk A d) (ok : MS.ok N sc (.ite t b o p) = true) (hs : stepS C.X S (.ite t b o p) m h = some (f, m', h')) (G : Gd C.w C.L C.G β s.toks h s.heap) (Fm : Frm C.L C.G N β s.toks m A₀ s.heap) (pst : PstX C N A₀ s β f m' h' Q) :
    GX C N env A Q E s (MS.ite t b o p) := by
  replace ok := (show (_ && _) = true from ok)
  simp only [Bool.and_eq_true] at ok
  obtain ⟨⟨v, h1⟩, e1, hs⟩ := bind_some hs
  obtain ⟨c, e2, hs⟩ := bind_some hs
  refine wpAny_If ?_
  refine ih t N sc env A₀ A m h h1 v c ok.1.1 V₀ hA e1 e2 s β _ E G Fm fun β1 H1 T1 t1 x1 g1 => ?_
  cases c with
  | true => exact ix b N sc env A₀ A m m' h1 h' f ok.1.2 V₀ hA hs { s with heap := H1, toks := T1 } β1 Q E g1 (Fm.ext x1 t1) (pst.step t1 x1.toF)
  | false => exact ix o N sc env A₀ A m m' h1 h' f ok.2 V₀ hA hs { s with heap := H1, toks := T1 } β1 Q E g1 (Fm.ext x1 t1) (pst.step t1 x1.toF)

end
end Mine

end

section
open PySem PySem.Calls PyProof.Rows PySem.W
namespace Mine
section
variable {C : Cx} {N : Nm} {sc : Scope} {env : Env} {A₀ : Pf} {A : Around} {d : Nat} {m m' : M} {h h' : Hp} {f : Fl} {s : Shared} {β : List Addr} {Q : Flow → Shared → Prop} {E : Value → Shared → Prop} {S : Sm}

theorem ExtF.butI {β₀ β1 : List Addr} {H₀ H1 H2 : Heap} {I : Addr} (x : ExtF A₀ β₀ H₀ β1 H1) (hI : H₀.get? I = none) (hk : ∀ b q, b ≠ I → H1.get? b = some q → H2.get? b = some q) : ExtF A₀ β₀ H₀ β1 H2 :=
  ⟨x.pre, fun b o n m e => let ⟨e1, n1⟩ := x.keep b o n m e; ⟨hk b o (fun z => by rw [z, hI] at e; cases e) e1, n1⟩⟩
/-- a for loop's target -/
structure Tgt (C : Cx) (N : Nm) (env : Env) (A₀ : Pf) (A : Around) (tgt : Expr) (st : V → M → Hp → Option M) : Prop where
  store : ∀ (v : V) (m m' : M) (h : Hp) (x : Value) (s : Shared) (β : List Addr) (Q : Unit → Shared → Prop) (E : Value → Shared → Prop), st v m h = some m' → Gd C.w C.L C.G β s.toks h s.heap → Frm C.L C.G N β s.toks m A₀ s.heap → VR C.L β s.toks v x →
    (∀ H' T', s.toks ≤ T' → ExtF A₀ β s.heap β H' → Gd C.w C.L C.G β T' h H' → Frm C.L C.G N β T' m' A₀ H' → Q () { s with heap := H', toks := T' }) → wpAny (model C.prog C.w) A (assign tgt env x) Q E s
  own : ∀ (I : Addr) (v : Value) (o : Obj) (s : Shared) (Q : Unit → Shared → Prop) (E : Value → Shared → Prop), s.heap.get? I = some o → okIter o → Q () s → wpAny (model C.prog C.w) A (letOwnedTupleGo tgt (.ref I) v) Q E s
/-- one turn of a for loop -/
noncomputable def Turn (C : Cx) (A : Around) (env : Env) (R : Result → Shared → Prop) (tgt : Expr) (itv : Value) (body : List Stmt) (I : Nat → Shared → Prop) (n : Nat) (s : Shared) : Prop :=
  wpAny (model C.prog C.w) A (pyNext itv) (fun r s₁ => match r with
      | none => wpAny (model C.prog C.w) A (execs [] env) (fun f s₃ => R (.ok f) s₃) (notedBy (model C.prog C.w) A env fun e s' => R (.error e) s') s₁
      | some v => wpAny (model C.prog C.w) A (letOwnedTupleGo tgt itv v) (fun _ s₁' =>
          wpAny (model C.prog C.w) A (assign tgt env v) (fun _ s₂ => wpAny (model C.prog C.w) A (execs body env) (fun f s₃ => match f with
            | .next | .cont => ∃ m, m < n ∧ I m s₃
            | .brk => R (.ok .next) s₃
            | .ret v => R (.ok (.ret v)) s₃) (notedBy (model C.prog C.w) A env fun e s' => R (.error e) s') s₂) (notedBy (model C.prog C.w) A env fun e s' => R (.error e) s') s₁') (notedBy (model C.prog C.w) A env fun e s' => R (.error e) s') s₁) (notedBy (model C.prog C.w) A env fun e s' => R (.error e) s') s
/-- what holds at a for loop's head -/
noncomputable def ForI (C : Cx) (N : Nm) (A₀ : Pf) (S : Sm) (I : Addr) (St : Nat → Obj → Prop) (vs : List V) (chk : Hp → Bool) (st : V → M → Hp → Option M) (b : MSs) (β₀ β₁ : List Addr) (H₀ : Heap) (T₀ : Nat) (r : Fl × M × Hp) (s : Shared) (n : Nat) (s1 : Shared) : Prop :=
  ∃ i β1 H1 T1 m1 h1 o1, n + i = vs.length ∧ s1 = { s with heap := H1, toks := T1 } ∧ T₀ ≤ T1 ∧ ExtF A₀ β₀ H₀ β1 H1 ∧ Pre β₁ β1 ∧ I ∉ β1 ∧ Gd C.w C.L C.G β1 T1 h1 H1 ∧ Frm C.L C.G N β1 T1 m1 A₀ H1 ∧ H1.get? I = some o1 ∧ St i o1 ∧ mfor S chk st b (vs.drop i) m1 h1 = some r

theorem for_loop {tgt : Expr} {st : V → M → Hp → Option M} {b : MSs} {vs : List V} {chk : Hp → Bool} {St : Nat → Obj → Prop} {I : Addr} {o : Obj} {β₀ β₁ : List Addr} {H₀ : Heap} {T₀ : Nat} {R : Result → Shared → Prop} (ix : SEx C S d) (V₀ : EnvOk C N sc env A₀) (hA : AOk A d) (ht : Tgt C N env A₀ A tgt st) (okb : b.ok N sc = true)
    (hit : Itr C A I St vs chk β₁) (hSt : ∀ i o, St i o → okIter o) (hpre : Pre β₁ β) (hI : I ∉ β) (hG : C.G.get? I = none) (hne : ¬ A₀.own I) (hI0 : H₀.get? I = none) (x0 : ExtF A₀ β₀ H₀ β s.heap) (t0 : T₀ ≤ s.toks) (G : Gd C.w C.L C.G β s.toks h s.heap) (Fm : Frm C.L C.G N β s.toks m A₀ s.heap)
    (ho : s.heap.get? I = some o) (hst : St 0 o) (hs : mfor S chk st b vs m h = some (f, m', h')) (pst : PstX C N A₀ { s with heap := H₀, toks := T₀ } β₀ f m' h' (fun y s' => R (.ok y) s')) :
    codeAny (model C.prog C.w) A (.forLoop tgt (.ref I) (b.back N) [] env) R s := by
  refine codeAny_forLoop_any (I := ForI C N A₀ S I St vs chk st b β₀ β₁ H₀ T₀ (f, m', h') s) (fun n s1 q => show Turn C A env R tgt (.ref I) (b.back N) (ForI C N A₀ S I St vs chk st b β₀ β₁ H₀ T₀ (f, m', h') s) n s1 from ?_) vs.length
    ⟨0, β, s.heap, s.toks, m, h, o, rfl, rfl, t0, x0, hpre, hI, G, Fm, ho, hst, hs⟩
  obtain ⟨i, β1, H1, T1, m1, h1, o1, hn, rfl, t1, x1, p1, hI1, g1, f1, ho1, hst1, e⟩ := q
  rcases Nat.lt_or_ge i vs.length with hlt | hge
  · have hv : vs[i]? = some vs[i] := List.getElem?_eq_getElem hlt
    rw [List.drop_eq_getElem_cons hlt] at e
    unfold mfor at e
    split at e
    · rename_i hc
      obtain ⟨m3, e0, e⟩ := bind_some e
      refine hit.item i vs[i] { s with heap := H1, toks := T1 } β1 h1 o1 _ _ hv p1 g1 hc ho1 hst1 fun y H2 T2 o2 t2 ho2 hst2 hk r2 => ?_
      have g2 := (g1.toks t2).but hI1 hG hk
      have f2 := (f1.but hne hk).toks t2
      have x2 := x1.butI hI0 hk
      refine ht.own I y o2 _ _ _ ho2 (hSt _ _ hst2) ?_
      refine ht.store _ m1 m3 h1 y { s with heap := H2, toks := T2 } β1 _ _ e0 g2 f2 r2 fun H3 T3 t3 x3 g3 f3 => ?_
      have x3' : ExtF A₀ β₀ H₀ β1 H3 := x2.trans x3
      have ho3 : H3.get? I = some o2 := (x3.keep I o2 hI1 hne ho2).1
      obtain ⟨⟨fl, m4, h4⟩, e1, e⟩ := bind_some e
      refine ix b N sc env A₀ A _ m4 h1 h4 fl okb V₀ hA e1 { s with heap := H3, toks := T3 } β1 _ _ g3 f3 fun z β5 H5 T5 t5 x5 g5 f5 r5 => ?_
      have tt : T₀ ≤ T5 := Nat.le_trans t1 (Nat.le_trans t2 (Nat.le_trans t3 t5))
      have xx := x3'.trans x5
      have hI5 := x5.keep I o2 hI1 hne ho3
      have again : mfor S chk st b (vs.drop (i + 1)) m4 h4 = some (f, m', h') → ∃ m, m < n ∧ ForI C N A₀ S I St vs chk st b β₀ β₁ H₀ T₀ (f, m', h') s m { s with heap := H5, toks := T5 } :=
        fun e => ⟨n - 1, by omega, i + 1, β5, H5, T5, m4, h4, o2, by omega, rfl, tt, xx, p1.trans x5.pre, hI5.2, g5, f5, hI5.1, hst2, e⟩
      cases fl with
      | next => cases r5; exact again e
      | cont => cases r5; exact again e
      | brk => cases r5; cases e; exact pst .next β5 H5 T5 tt xx g5 f5 rfl
      | ret v => obtain ⟨y, rfl, r⟩ := r5; cases e; exact pst _ β5 H5 T5 tt xx g5 f5 ⟨y, rfl, r⟩
    · cases e
  · have hi : i = vs.length := by omega
    subst hi
    rw [List.drop_length] at e
    unfold mfor at e
    split at e
    · rename_i hc
      cases e
      refine hit.done { s with heap := H1, toks := T1 } β1 _ o1 _ _ p1 g1 hc ho1 hst1 fun H2 T2 t2 hk => ?_
      refine wpAny_execs_nil ?_
      exact pst .next β1 H2 T2 (Nat.le_trans t1 t2) (x1.butI hI0 hk) ((g1.toks t2).but hI1 hG hk) ((f1.but hne hk).toks t2) rfl
    · cases e

theorem tgt1 {x : Nat} {xp : Pos} (V₀ : EnvOk C N sc env A₀) (okx : okSlot N sc x = true) : Tgt C N env A₀ A (.Name (N.slots.getD x default) xp) (st1 x) where
  store := by
    intro v m m' h y s β Q E e G Fm r k
    cases e
    exact assign_Name (store_sound V₀ (okSlot_C okx) G Fm r k)
  own := by
    intro I v o s Q E _ _ k
    unfold letOwnedTupleGo
    exact wpAny_pure k
theorem iter_sound {it : ME} {vs : List V} {chk : Hp → Bool} {Q : Value → Shared → Prop} (ok0 : C.Ok) (ih : SEv C S d) (V₀ : EnvOk C N sc env A₀) (hA : AOk A d) (ok : okIt1 N sc it = true) (hs : iter1 C.X S it m h = some (vs, chk, h')) (G : Gd C.w C.L C.G β s.toks h s.heap) (Fm : Frm C.L C.G N β s.toks m A₀ s.heap)
    (k : IterK C N A₀ A s β m h' vs chk Q) :
    wpAny (model C.prog C.w) A (eval (it.back N) env) (fun x s₁ => wpAny (model C.prog C.w) A (pyIter x) Q E s₁) E s := by
  unfold iter1 at hs
  split at hs
  · rename_i np e p
    simp only [okIt1, Bool.and_eq_true] at ok
    obtain ⟨⟨a, h1⟩, e1, hs⟩ := bind_some hs
    dsimp only at hs
    split at hs
    · rename_i n
      split at hs
      · rename_i hn
        cases hs
        show wpAny _ _ (eval (.Call (.Name (Str.ofString Bi.range.name) np) ((MEs.cons e .nil).back N) [] p) env) _ E s
        refine Call_ (bname ok0 V₀ ok.1 G ?_)
        rw [trees]
        refine PyProof.Rows.callWith_type rfl (evalArgs_plain (spliced_cons ?_))
        refine ih e N sc env A₀ A m h _ (.int n) ok.2 V₀ hA e1 s β _ E G Fm fun x β1 H1 T1 t1 x1 g1 r1 => ?_
        obtain ⟨t, rfl⟩ := r1
        refine spliced_nil ?_
        refine call_range_1 ?_
        refine wpAny_pyIter_range (IsRange.new ..) (small_one (by decide) (by decide) (by unfold LIM at hn; omega) (by unfold LIM at hn; omega)) ?_
        have hsz : Builtin.Range.rangeSize 0 n 1 = (n.toNat : Int) := by rw [rangeSize_one]; split <;> omega
        rw [hsz]
        have hk := get?_push_keep (H := H1) { cls := .type "range", data := .fields #[.int 0 T1, .int n t, .int 1 (T1 + 1)] }
        exact iter_fin Fm k (T1 + 1 + 1) _ β1 (Nat.le_trans t1 (Nat.le_trans (Nat.le_succ _) (Nat.le_succ _))) (x1.trans (Ext.grow hk)) ((g1.toks (Nat.le_trans (Nat.le_succ _) (Nat.le_succ _))).grow hk) _ _ rfl (by simp [rawInt]) (itr_range (n := n.toNat) hA.hd) fun i o hh => by subst hh; exact ⟨_, rfl⟩
      · cases hs
    · cases hs
  · rename_i hne
    refine iter_plain ok0 ih V₀ hA ?_ hs G Fm k
    unfold okIt1 at ok
    split at ok
    · exact absurd rfl (hne _ _ _)
    · exact ok

theorem ex_for1 {x : Nat} {xp p : Pos} {it : ME} {b : MSs} {Q : Flow → Shared → Prop} (ok0 : C.Ok) (ih : SEv C S d) (ix : SEx C S d) (V₀ : EnvOk C N sc env A₀) (hA : AOk A d) (ok : MS.ok N sc (.for1 x xp it b p) = true) (hs : stepS C.X S (.for1 x xp it b p) m h = some (f, m', h')) (G : Gd C.w C.L C.G β s.toks h s.heap) (Fm : Frm C.L C.G N β s.toks m A₀ s.heap) (pst : PstX C N A₀ s β f m' h' Q) :
    GX C N env A Q E s (MS.for1 x xp it b p) := by
  replace ok := (show (_ && _) = true from ok)
  simp only [Bool.and_eq_true] at ok
  obtain ⟨⟨vs, chk, h1⟩, e1, hs⟩ := bind_some hs
  refine wpAny_For ?_ (fun _ => notSet it)
  refine iter_sound ok0 ih V₀ hA ok.1.2 e1 G Fm fun I o St β1 H1 T1 t1 hI hG hne hI0 x1 g1 f1 ho hst hit hSt => ?_
  exact for_loop (s := { s with heap := H1, toks := T1 }) (T₀ := s.toks) (β₀ := β) (H₀ := s.heap) ix V₀ hA (tgt1 V₀ ok.1.1) ok.2 hit hSt (Pre.refl _) hI hG hne hI0 x1.toF t1 g1 f1 ho hst hs pst
end
end Mine

end

section
open PySem PySem.Calls PyProof.Rows PySem.W
namespace Mine
section
variable {prog : Program} {w : World} {A : Around} {s : Shared} {E : Value → Shared → Prop}

/-- the pair that a dict's items give next is the entry's own key and value -/
theorem next_pair {I a : Addr} {i ep : Nat} {ents : Array DictEntry} {e : DictEntry} {ok ov : Value} {Q : Option Value → Shared → Prop} (hit : IsItemIter s.heap I a i ents.size ep ok ov) (hob : s.heap.get? a = some ⟨.type "dict", none, .dict ents ep, #[]⟩) (hx : ents[i]? = some e)
    (k : ∀ H', IsItemIterOut H' I a (i + 1) ents.size ep e.key e.val s.heap.objs.size → H'.get? s.heap.objs.size = some { cls := .type "tuple", data := .seq #[e.key, e.val] } →
      (∀ b o, b ≠ I → s.heap.get? b = some o → H'.get? b = some o) → Q (some (.ref s.heap.objs.size)) { s with heap := H' }) : wpAny (model prog w) A (pyNext (.ref I)) Q E s := by
  have ty : s.TypeIs (.ref I) "dict_itemiterator" := ⟨_, hit, rfl⟩
  have name : ∀ {R : String → Shared → Prop}, R "dict_itemiterator" s → ∀ {A' : Around} {E' : Value → Shared → Prop}, wpAny (model prog w) A' (typeNameOfWhole (.ref I)) R E' s := fun r => wpAny_typeNameOfWhole_itemiter ty r
  unfold pyNext
  refine wpAny_bind (wpAny_attempt (wpAny_callSpecial?_slot (name := Str.ofString "__next__") ty F.slot_dict_itemiterator_next
    (wpAny_call_entry F.slot_dict_itemiterator_next ty F.entry_dict_itemiterator_next ?_ (F.args_dict_itemiterator_next_1 _))))
  refine wpAny_bind (wpAny_pure (wpAny_bind (wpAny_bind (wpAny_bind (name (wpAny_pure ?_))))))
  refine wpAny_bind (wpAny_fieldsOf hit rfl ?_)
  simp only [show Builtin.Dict_items.ownsTuple "dict_itemiterator" = true from by decide, if_true]
  show wpAny _ _ (if (Value.ref a == Value.none) = true then _ else _) _ _ s
  rw [if_neg (show ¬ ((Value.ref a == Value.none) = true) from Bool.false_ne_true)]
  refine wpAny_bind (wpAny_pure (wpAny_bind (wpAny_dictEntries hob rfl ?_)))
  rw [if_neg (by simp)]
  refine wpAny_bind (wpAny_pure (wpAny_bind (wpAny_dictEpoch hob rfl ?_)))
  rw [if_neg (by simp)]
  refine wpAny_pure ?_
  simp only [show ¬ ((i : Int) < 0) from by omega, if_false, Int.toNat_natCast, hx]
  refine wpAny_bind (wpAny_bind (name (wpAny_pure ?_)))
  refine wpAny_bind (wpAny_isOneOf_itemiter ty ?_)
  show wpAny _ _ (setField (.ref I) 3 (rawInt ((i : Int) + 1)) >>= _) _ _ s
  refine wpAny_bind (wpAny_setField_rec hit (by simp) fun H1 q1 s1 => ?_)
  have e1 : (i : Int) + 1 = ((i + 1 : Nat) : Int) := by omega
  have i1 : IsItemIter H1 I a (i + 1) ents.size ep ok ov := by unfold IsItemIter; rw [← e1]; simpa [rawInt] using q1
  have z1 : H1.objs.size = s.heap.objs.size := s1.1
  have t1 : Shared.TypeIs { s with heap := H1 } (.ref I) "dict_itemiterator" := ⟨_, i1, rfl⟩
  refine wpAny_bind (wpAny_holding (wpAny_bind (wpAny_isOneOf_itemiter t1 (wpAny_bind (wpAny_isOneOf_itemiter t1 ?_)))))
  show wpAny _ _ (Builtin.Dict_items.pairFromOwner (.ref I) 6 e.key e.val) _ _ { s with heap := H1 }
  unfold Builtin.Dict_items.pairFromOwner
  refine wpAny_bind (wpAny_newTuple ?_)
  have i2 : IsItemIter (H1.push { cls := .type "tuple", data := .seq #[e.key, e.val] }) I a (i + 1) ents.size ep ok ov := Heap.get?_push_of_some _ i1
  have p2 : (H1.push { cls := .type "tuple", data := .seq #[e.key, e.val] }).get? s.heap.objs.size = some { cls := .type "tuple", data := .seq #[e.key, e.val] } := by rw [← z1]; exact Heap.get?_push_size _ rfl
  have k2 : ∀ b o, b ≠ I → s.heap.get? b = some o → (H1.push { cls := .type "tuple", data := .seq #[e.key, e.val] }).get? b = some o := fun b o n x => Heap.get?_push_of_some _ ((s1.2 b n).trans x)
  have lt : s.heap.objs.size ≠ I := Nat.ne_of_gt (Heap.lt_size hit)
  show wpAny _ _ (Builtin.Dict_items.ownedTupleIsFree (.ref I) >>= _) _ _ { s with heap := H1.push { cls := .type "tuple", data := .seq #[e.key, e.val] } }
  rw [show ({ s with heap := H1 } : Shared).heap.objs.size = s.heap.objs.size from z1]
  generalize H1.push { cls := .type "tuple", data := .seq #[e.key, e.val] } = H2 at i2 p2 k2 ⊢
  unfold Builtin.Dict_items.ownedTupleIsFree
  refine wpAny_bind (wpAny_bind (wpAny_field (s := { s with heap := H2 }) i2 rfl (x := .none) rfl (wpAny_pure ?_)))
  simp only [if_true]
  refine wpAny_bind (wpAny_field (s := { s with heap := H2 }) i2 rfl (x := ok) rfl (wpAny_bind (wpAny_field (s := { s with heap := H2 }) i2 rfl (x := ov) rfl ?_)))
  refine wpAny_bind (wpAny_setField_rec (s := { s with heap := H2 }) i2 (by simp) fun H3 i3 s3 => wpAny_bind (wpAny_setField_rec (s := { s with heap := H3 }) i3 (by simp) fun H4 i4 s4 => wpAny_bind (wpAny_setField_rec (s := { s with heap := H4 }) i4 (by simp) fun H5 i5 s5 =>
    wpAny_bind (wpAny_setField_rec (s := { s with heap := H5 }) i5 (by simp) fun H6 i6 s6 => ?_))))
  have same : ∀ b, b ≠ I → H6.get? b = H2.get? b := fun b n => (s6.2 b n).trans ((s5.2 b n).trans ((s4.2 b n).trans (s3.2 b n)))
  refine wpAny_bind (wpAny_letGo (wpAny_pure (wpAny_pure ⟨_, rfl, wpAny_pure (k H6 ?_ ((same _ lt).trans p2) fun b o n x => (same b n).trans (k2 b o n x))⟩)))
  exact i6
end
end Mine

end

section
open PySem PySem.Calls PyProof.Rows PySem.W
namespace Mine
section
variable {C : Cx} {N : Nm} {sc : Scope} {env : Env} {A₀ : Pf} {A : Around} {d : Nat} {m m' : M} {h h' : Hp} {f : Fl} {s : Shared} {β : List Addr} {E : Value → Shared → Prop} {S : Sm}

theorem slot_ne {l : List Str} {i j : Nat} (nd : l.Nodup) (hi : i < l.length) (hj : j < l.length) (hij : i ≠ j) : l.getD i default ≠ l.getD j default := by
  rw [List.getD_eq_getElem?_getD, List.getD_eq_getElem?_getD, List.getElem?_eq_getElem hi, List.getElem?_eq_getElem hj]
  intro e
  exact hij ((List.getElem?_inj hi nd).mp (by rw [List.getElem?_eq_getElem hi, List.getElem?_eq_getElem hj]; exact congrArg some e))

/-- the frame with its own names as a map -/
structure FrmF (L : Pl) (G : Heap) (N : Nm) (β : List Addr) (T : Nat) (m : M) (P : Pf) (H : Heap) (fm : Str → Option Value) : Prop where
  ns : H.Ns P.A fm
  rel : ∀ i v, i < N.slots.length → m.getD i none = some v → P.vis (N.slots.getD i default) = true → P.cs.lookup (N.slots.getD i default) = none → ∃ y, fm (N.slots.getD i default) = some y ∧ VR L β T v y
  cl : ∀ x c, P.cs.lookup x = some c → ∃ w, H.IsCell c w ∧ ∀ i v, i < N.slots.length → N.slots.getD i default = x → m.getD i none = some v → ∃ y, w = some y ∧ VR L β T v y
  out : ∀ a, P.own a → a ∉ β
  new : ∀ a, P.own a → G.get? a = none
theorem FrmF.frm {L : Pl} {G : Heap} {T : Nat} {P : Pf} {H : Heap} {fm : Str → Option Value} (f : FrmF L G N β T m P H fm) : Frm L G N β T m P H := ⟨⟨fm, f.ns, f.rel⟩, f.cl, f.out, f.new⟩
theorem FrmF.get {T : Nat} {H : Heap} {fm : Str → Option Value} {i : Nat} {v : V} (f : FrmF C.L C.G N β T m A₀ H fm) (V₀ : EnvOk C N sc env A₀) (ok : okSlot N sc i = true) (e : m.getD i none = some v) : ∃ y, fm (N.slots.getD i default) = some y ∧ VR C.L β T v y := by
  simp only [okSlot, Bool.and_eq_true, decide_eq_true_eq, beq_iff_eq] at ok
  exact f.rel i v ok.1 e (V₀.vis _ (.inl ok.2)) (V₀.kl _ ok.2)

theorem storeF {i : Nat} {x : Value} {v : V} {fm : Str → Option Value} {Q : Unit → Shared → Prop} (V₀ : EnvOk C N sc env A₀) (ok : okSlot N sc i = true) (G : Gd C.w C.L C.G β s.toks h s.heap) (Fm : FrmF C.L C.G N β s.toks m A₀ s.heap fm) (r : VR C.L β s.toks v x)
    (k : ∀ H', ExtF A₀ β s.heap β H' → Gd C.w C.L C.G β (s.toks + 1) h H' → FrmF C.L C.G N β (s.toks + 1) (m.set i (some v)) A₀ H' (fun z => if z = N.slots.getD i default then some x else fm z) → (∀ b q, ¬ A₀.own b → s.heap.get? b = some q → H'.get? b = some q) → Q () { s with heap := H', toks := s.toks + 1 }) :
    wpAny (model C.prog C.w) A (storeName env (N.slots.getD i default) x) Q E s := by
  simp only [okSlot, Bool.and_eq_true, decide_eq_true_eq, beq_iff_eq] at ok
  obtain ⟨hi, hk⟩ := ok
  obtain ⟨hn, l, cl, out, new⟩ := Fm
  refine wpAny_storeName_local (by unfold Env.kindOf; rw [V₀.scp]; exact hk) (by rw [V₀.loc]; exact hn) (fun H' hn' hs' => ?_) (by rw [V₀.scp, V₀.kind]; rfl)
  rw [V₀.loc] at hn' hs'
  have hk' : ∀ b o, b ≠ A₀.A → s.heap.get? b = some o → H'.get? b = some o := fun b o n e => (hs'.2 b n).trans e
  refine k H' ⟨Pre.refl _, fun b o n m e => ⟨hk' b o (fun z => m (.inl z)) e, n⟩⟩ ((G.toks (Nat.le_succ _)).but (out _ (.inl rfl)) (new _ (.inl rfl)) hk') ⟨hn', fun j u hj e1 e2 e3 => ?_, fun n c hc => ?_, out, new⟩ fun b q n e => hk' b q (fun z => n (.inl z)) e
  · rcases getD_set e1 with ⟨rfl, rfl⟩ | ⟨hne, e1⟩
    · exact ⟨x, by simp, r.mono (Pre.refl _) (Nat.le_succ _)⟩
    · obtain ⟨y, h1, h2⟩ := l j u hj e1 e2 e3
      refine ⟨y, ?_, h2.mono (Pre.refl _) (Nat.le_succ _)⟩
      have : N.slots.getD j default ≠ N.slots.getD i default := fun q => hne (slot_inj V₀.nd hj hi q)
      show (if _ then _ else _) = _
      rw [if_neg this]
      exact h1
  · obtain ⟨w, h1, h2⟩ := cl n c hc
    refine ⟨w, isCell_keep h1 fun o e => hk' c o (fun z => ns_not_cell hn (z ▸ h1)) e, fun j u hj e1 e2 => ?_⟩
    rcases getD_set e2 with ⟨rfl, rfl⟩ | ⟨hne, e2⟩
    · have := V₀.kl _ hk
      rw [e1, hc] at this
      cases this
    · obtain ⟨y, h3, h4⟩ := h2 j u hj e1 e2
      exact ⟨y, h3, h4.mono (Pre.refl _) (Nat.le_succ _)⟩

theorem loadF {i : Nat} {p : Pos} {y : Value} {fm : Str → Option Value} {Q : Value → Shared → Prop} (V₀ : EnvOk C N sc env A₀) (ok : okSlot N sc i = true) (hd : (N.slots.getD i default == ("__debug__" : Str)) = false) (hn : s.heap.Ns A₀.A fm) (hy : fm (N.slots.getD i default) = some y) (k : Q y s) :
    wpAny (model C.prog C.w) A (eval (.Name (N.slots.getD i default) p) env) Q E s := by
  simp only [okSlot, Bool.and_eq_true, decide_eq_true_eq, beq_iff_eq] at ok
  exact wpAny_Name (wpAny_loadName_local (by rw [V₀.scp]; exact V₀.kind) (by unfold Env.kindOf; rw [V₀.scp]; exact ok.2) (by rw [V₀.loc]; exact hn) hy k) hd

theorem FrmF.but {T : Nat} {H H' : Heap} {I : Addr} {fm : Str → Option Value} (Fm : FrmF C.L C.G N β T m A₀ H fm) (hne : ¬ A₀.own I) (hk : ∀ b q, b ≠ I → H.get? b = some q → H'.get? b = some q) : FrmF C.L C.G N β T m A₀ H' fm := by
  obtain ⟨hn, l, cl, out, new⟩ := Fm
  refine ⟨ns_keep hn fun o e => hk _ o (fun z => hne (.inl z.symm)) e, l, fun x c hc => ?_, out, new⟩
  obtain ⟨w, h1, h2⟩ := cl x c hc
  exact ⟨w, isCell_keep h1 fun o e => hk _ o (fun z => hne (.inr ⟨x, z ▸ hc⟩)) e, h2⟩

/-- the body of the replace loop -/
theorem rep_body {si ki vi : Nat} {tp2 sp mp k2 v2 rp ap2 : Pos} {k l v : List Nat} {t u : Tok} {yl : Value} {fm : Str → Option Value} {Q : Flow → Shared → Prop} (ok0 : C.Ok) (V₀ : EnvOk C N sc env A₀) (oks : okSlot N sc si = true) (okk : okSlot N sc ki = true) (okv : okSlot N sc vi = true)
    (hl2 : (mp.endLine == rp.line) = true) (hd1 : (N.slots.getD si default == ("__debug__" : Str)) = false) (hd2 : (N.slots.getD ki default == ("__debug__" : Str)) = false) (hd3 : (N.slots.getD vi default == ("__debug__" : Str)) = false)
    (G : Gd C.w C.L C.G β s.toks h s.heap) (f6 : FrmF C.L C.G N β s.toks m A₀ s.heap fm) (ls : fm (N.slots.getD si default) = some yl) (lk : fm (N.slots.getD ki default) = some (.str ⟨k.toArray⟩ t)) (lv : fm (N.slots.getD vi default) = some (.str ⟨v.toArray⟩ u))
    (rl : VR C.L β s.toks (.str l) yl) (h4 : 0 < t) (u0 : 0 < u) (hne2 : t ≠ u) (hk0 : k ≠ []) (hlen : l.length + (l.length + 1) * v.length ≤ LIM)
    (kk : ∀ β8 H8 H9 T9, s.toks ≤ T9 → Ext β s.heap β8 H8 → ExtF A₀ β8 H8 β8 H9 → Gd C.w C.L C.G β8 T9 h H9 → Frm C.L C.G N β8 T9 (m.set si (some (.str (replace k v l)))) A₀ H9 → Q .next { s with heap := H9, toks := T9 }) :
    wpAny (model C.prog C.w) A (execs [.Assign [.Name (N.slots.getD si default) tp2] (.Call (.Attribute (.Name (N.slots.getD si default) sp) (Str.ofString "replace") mp) [.Name (N.slots.getD ki default) k2, .Name (N.slots.getD vi default) v2] [] rp) ap2] env) Q E s := by
  refine wpAny_execs_cons ?_
  refine wpAny_Assign_Name ?_ (by rfl)
  refine wpAny_Call_method (T := "str") (id := "str.replace") (by rfl) (by rfl) hl2 F.plainAttrs_str F.slot_str_replace F.type_str_replace ?_
  refine loadF V₀ oks hd1 f6.ns ls ?_
  have hT : s.TypeIs yl "str" := by obtain ⟨t, rfl, _⟩ := rl; exact typeIs_str _ _ _
  refine ⟨hT, fun b hb => (by obtain ⟨t, rfl, _⟩ := rl; cases hb), ?_⟩
  refine withB (N := N) (as := .cons (.loc ki k2) (.cons (.loc vi v2) .nil)) ?_
  refine spliced_cons (loadF V₀ okk hd2 f6.ns lk (spliced_cons (loadF V₀ okv hd3 f6.ns lv (spliced_nil ?_))))
  refine rep_sound ok0 G rl h4 u0 hne2 hk0 hlen fun z β8 H8 T8 t8 x8 g8 r8 => ?_
  have f8 : Frm C.L C.G N β8 T8 m A₀ H8 := f6.frm.ext x8 t8
  refine store_sound (s := { s with heap := H8, toks := T8 }) V₀ (okSlot_C oks) g8 f8 r8 fun H9 T9 t9 x9 g9 f9 => ?_
  exact wpAny_execs_nil (kk β8 H8 H9 T9 (Nat.le_trans t8 t9) x8 x9 g9 f9)

/-- one turn of the replace loop, behind the drawing of a pair -/
theorem rep_turn {si ki vi : Nat} {kp vp tp tp2 sp mp k2 v2 rp ap2 : Pos} {I a tu : Addr} {i n ep : Nat} {k l v : List Nat} {t u : Tok} {ek ev : Value} {fm : Str → Option Value} {Q : Flow → Shared → Prop} (ok0 : C.Ok) (V₀ : EnvOk C N sc env A₀) (hA : AOk A d) (oks : okSlot N sc si = true) (okk : okSlot N sc ki = true) (okv : okSlot N sc vi = true)
    (nkv : N.slots.getD ki default ≠ N.slots.getD vi default) (nsk : N.slots.getD si default ≠ N.slots.getD ki default) (nsv : N.slots.getD si default ≠ N.slots.getD vi default)
    (hl2 : (mp.endLine == rp.line) = true) (hd1 : (N.slots.getD si default == ("__debug__" : Str)) = false) (hd2 : (N.slots.getD ki default == ("__debug__" : Str)) = false) (hd3 : (N.slots.getD vi default == ("__debug__" : Str)) = false)
    (i2 : IsItemIterOut s.heap I a i n ep ek ev tu) (htu : s.heap.get? tu = some { cls := .type "tuple", data := .seq #[ek, ev] }) (hI : I ∉ β) (hnI : C.G.get? I = none) (hne : ¬ A₀.own I) (htI : tu ≠ I)
    (g2 : Gd C.w C.L C.G β s.toks h s.heap) (f2 : FrmF C.L C.G N β s.toks m A₀ s.heap fm) (hl : m.getD si none = some (.str l)) (hk : ek = .str ⟨k.toArray⟩ t) (hv : ev = .str ⟨v.toArray⟩ u)
    (h4 : 0 < t) (h5 : t < s.toks) (h6 : k.length ≤ LIM) (u0 : 0 < u) (u9 : u < s.toks) (ul : v.length ≤ LIM) (hne2 : t ≠ u) (hk0 : k ≠ []) (hlen : l.length + (l.length + 1) * v.length ≤ LIM)
    (kk : ∀ β' H' T', s.toks ≤ T' → Pre β β' → (∀ b o, b ∉ β → ¬ A₀.own b → b ≠ I → s.heap.get? b = some o → H'.get? b = some o ∧ b ∉ β') → IsItemIter H' I a i n ep ek ev → I ∉ β' → Gd C.w C.L C.G β' T' h H' → Frm C.L C.G N β' T' (((m.set ki (some (.str k))).set vi (some (.str v))).set si (some (.str (replace k v l)))) A₀ H' → Q .next { s with heap := H', toks := T' }) :
    wpAny (model C.prog C.w) A (letOwnedTupleGo (.Tuple [.Name (N.slots.getD ki default) kp, .Name (N.slots.getD vi default) vp] 0 tp) (.ref I) (.ref tu)) (fun _ s1 => wpAny (model C.prog C.w) A (assign (.Tuple [.Name (N.slots.getD ki default) kp, .Name (N.slots.getD vi default) vp] 0 tp) env (.ref tu)) (fun _ s2 => wpAny (model C.prog C.w) A
      (execs [.Assign [.Name (N.slots.getD si default) tp2] (.Call (.Attribute (.Name (N.slots.getD si default) sp) (Str.ofString "replace") mp) [.Name (N.slots.getD ki default) k2, .Name (N.slots.getD vi default) v2] [] rp) ap2] env) Q E s2) E s1) E s := by
  subst hk hv
  refine wpAny_letOwnedTupleGo_items i2 fun H3 i3 s3 => ?_
  have k3 : ∀ b q, b ≠ I → s.heap.get? b = some q → H3.get? b = some q := fun b q n e => (s3.2 b n).trans e
  have g3 := g2.but hI hnI k3
  have f3 := f2.but hne k3
  have tu3 : IsTup H3 tu #[.str ⟨k.toArray⟩ t, .str ⟨v.toArray⟩ u] := ⟨_, k3 _ _ htI htu, rfl, _, rfl⟩
  refine assign_Tuple_tuple (s := { s with heap := H3 }) hA.hd tu3 rfl rfl fun H4 q4 => ?_
  have k4 : ∀ b q, H3.get? b = some q → H4.get? b = some q := extBut_keep (fun b o e => e) q4
  have g4 := g3.grow k4
  have f4 : FrmF C.L C.G N β s.toks m A₀ H4 fm := f3.but hne (fun b q _ e => k4 b q e)
  have i4 := k4 _ _ i3
  show wpAny _ _ (assignInOrder [assign (.Name (N.slots.getD ki default) kp) env, assign (.Name (N.slots.getD vi default) vp) env] [.str ⟨k.toArray⟩ t, .str ⟨v.toArray⟩ u]) _ _ _
  refine assignInOrder_cons (assign_Name ?_)
  refine storeF (s := { s with heap := H4 }) (v := .str k) V₀ okk g4 f4 ⟨t, rfl, h4, h5, h6⟩ fun H5 x5 g5 f5 k5 => ?_
  refine assignInOrder_cons (assign_Name ?_)
  refine storeF (s := { s with heap := H5, toks := s.toks + 1 }) (v := .str v) V₀ okv g5 f5 ⟨u, rfl, u0, Nat.lt_succ_of_lt u9, ul⟩ fun H6 x6 g6 f6 k6 => ?_
  refine assignInOrder_nil ?_
  have i6 := k6 _ _ hne (k5 _ _ hne i4)
  obtain ⟨yl, hyl, ryl⟩ := f2.get V₀ oks hl
  have rl : VR C.L β (s.toks + 1 + 1) (.str l) yl := ryl.mono (Pre.refl _) (Nat.le_trans (Nat.le_succ _) (Nat.le_succ _))
  refine rep_body (s := { s with heap := H6, toks := s.toks + 1 + 1 }) ok0 V₀ oks okk okv hl2 hd1 hd2 hd3 g6 f6 ((if_neg nsv).trans ((if_neg nsk).trans hyl)) ((if_neg nkv).trans (if_pos rfl)) (if_pos rfl) rl h4 u0 hne2 hk0 hlen fun β8 H8 H9 T9 t9 x8 x9 g9 f9 => ?_
  have i8 := x8.keep _ _ hI i6
  have i9 := x9.keep _ _ i8.2 hne i8.1
  refine kk β8 H9 T9 (Nat.le_trans (Nat.le_succ _) (Nat.le_trans (Nat.le_succ _) t9)) (x5.pre.trans (x6.pre.trans (x8.pre.trans x9.pre))) (fun b o q1 q2 q3 e => ?_) i9.1 i9.2 g9 f9
  have e6 := k6 b o q2 (k5 b o q2 (k4 b o (k3 b o q3 e)))
  have e8 := x8.keep b o q1 e6
  exact x9.keep b o e8.2 q2 e8.1

noncomputable def repT (N : Nm) (ki vi : Nat) (kp vp tp : Pos) : Expr := .Tuple [.Name (N.slots.getD ki default) kp, .Name (N.slots.getD vi default) vp] 0 tp
noncomputable def repB (N : Nm) (si ki vi : Nat) (tp2 sp mp k2 v2 rp ap2 : Pos) : List Stmt := [.Assign [.Name (N.slots.getD si default) tp2] (.Call (.Attribute (.Name (N.slots.getD si default) sp) (Str.ofString "replace") mp) [.Name (N.slots.getD ki default) k2, .Name (N.slots.getD vi default) v2] [] rp) ap2]
noncomputable def RepI (C : Cx) (N : Nm) (A₀ : Pf) (si ki vi : Nat) (es : List (List Nat × V)) (a I : Addr) (kl ep : Nat) (s : Shared) (β : List Addr) (h : Hp) (m' : M) (n : Nat) (s1 : Shared) : Prop :=
  ∃ i β1 H1 T1 m1 ok ov, n + i = es.length ∧ s1 = { s with heap := H1, toks := T1 } ∧ s.toks ≤ T1 ∧ ExtF A₀ β s.heap β1 H1 ∧ I ∉ β1 ∧ Gd C.w C.L C.G β1 T1 h H1 ∧ Frm C.L C.G N β1 T1 m1 A₀ H1 ∧ IsItemIter H1 I a i kl ep ok ov ∧ reps si ki vi (es.drop i) m1 = some m'
structure RepOk (N : Nm) (sc : Scope) (si ki vi di : Nat) (ap cp mp rp : Pos) : Prop where
  oks : okSlot N sc si = true
  okk : okSlot N sc ki = true
  okv : okSlot N sc vi = true
  okd : okSlot N sc di = true
  hkv : ki ≠ vi
  hsk : si ≠ ki
  hsv : si ≠ vi
  l1 : (ap.endLine == cp.line) = true
  l2 : (mp.endLine == rp.line) = true
  d1 : (N.slots.getD si default == ("__debug__" : Str)) = false
  d2 : (N.slots.getD ki default == ("__debug__" : Str)) = false
  d3 : (N.slots.getD vi default == ("__debug__" : Str)) = false
  d4 : (N.slots.getD di default == ("__debug__" : Str)) = false
theorem rep_ok {si ki vi di : Nat} {kp vp tp dp ap cp tp2 sp mp k2 v2 rp ap2 p : Pos} (ok : MS.ok N sc (.rep si ki vi di kp vp tp dp ap cp tp2 sp mp k2 v2 rp ap2 p) = true) : RepOk N sc si ki vi di ap cp mp rp := by
  replace ok := (show (_ && _) = true from ok)
  simp only [Bool.and_eq_true, decide_eq_true_eq, List.any_cons, List.any_nil, Bool.not_eq_true', Bool.or_eq_false_iff] at ok
  obtain ⟨⟨⟨⟨⟨⟨⟨⟨⟨oks, okk⟩, okv⟩, okd⟩, hkv⟩, hsk⟩, hsv⟩, hl1⟩, hl2⟩, hd1, hd2, hd3, hd4, _⟩ := ok
  exact ⟨oks, okk, okv, okd, hkv, hsk, hsv, hl1, hl2, hd1, hd2, hd3, hd4⟩
theorem slot_lt {i : Nat} (h : okSlot N sc i = true) : i < N.slots.length := of_decide_eq_true (Bool.and_eq_true_iff.mp h).1
theorem rep_inv {X : Hp} {si ki vi di : Nat} {kp vp tp dp ap cp tp2 sp mp k2 v2 rp ap2 p : Pos} (hs : stepS X S (.rep si ki vi di kp vp tp dp ap cp tp2 sp mp k2 v2 rp ap2 p) m h = some (f, m', h')) :
    ∃ dv ep es, m.getD di none = some dv ∧ obj X h dv = some (.dict true ep es) ∧ reps si ki vi es m = some m' ∧ f = .next ∧ h' = h := by
  obtain ⟨dv, e1, hs⟩ := bind_some hs
  obtain ⟨ep, es, hob, hs⟩ : ∃ ep es, obj X h dv = some (.dict true ep es) ∧ ((reps si ki vi es m).map fun m => (Fl.next, m, h)) = some (f, m', h') := by
    split at hs
    · rename_i ep es hh; exact ⟨ep, es, hh, hs⟩
    · cases hs
  obtain ⟨m2, e2, e3⟩ := map_some hs
  cases e3
  exact ⟨dv, ep, es, e1, hob, e2, rfl, rfl⟩
theorem reps_inv {si ki vi : Nat} {q : List Nat × V} {r : List (List Nat × V)} {m1 m' : M} (e : reps si ki vi (q :: r) m1 = some m') : ∃ k v l, q = (k, V.str v) ∧ m1.getD si none = some (.str l) ∧ k ≠ [] ∧ l.length + (l.length + 1) * v.length ≤ LIM ∧ reps si ki vi r (((m1.set ki (some (.str k))).set vi (some (.str v))).set si (some (.str (replace k v l)))) = some m' := by
  obtain ⟨k, v⟩ := q
  cases v <;> try (simp [reps] at e; done)
  rename_i v
  unfold reps at e
  split at e
  · rename_i l hl
    split at e
    · rename_i hc
      exact ⟨k, v, l, rfl, hl, hc.1, hc.2, e⟩
    · cases e
  · cases e

noncomputable def LoopR (C : Cx) (A : Around) (env : Env) (E : Value → Shared → Prop) (Q : Flow → Shared → Prop) (r : Result) (s' : Shared) : Prop := match r with | .ok f => Q f s' | .error e => cameBackBy (model C.prog C.w) A env E e s'
/-- a for loop over a dict's items, up to the loop -/
theorem for_items {tgt dE : Expr} {body : List Stmt} {ap cp p : Pos} {a : Addr} {kvs : List (Str × Value)} {ep : Nat} {Q : Flow → Shared → Prop} (big : (a == sysModules) = false) (q1 : s.heap.DictAt (strKind C.prog C.w) a kvs ep) (hl1 : (ap.endLine == cp.line) = true) (hb : attributeBase dE "items" env (eval dE env) = eval dE env) (hdE : ∀ Q', Q' (.ref a) s → wpAny (model C.prog C.w) A (eval dE env) Q' E s)
    (hse : ∀ x, foldedSetIterable (.Call (.Attribute dE "items" ap) [] [] cp) env x = pure x)
    (k : ∀ H0 I, (∀ b o, s.heap.get? b = some o → H0.get? b = some o) → s.heap.get? I = none → s.heap.objs.size < I → H0.get? I = some { cls := .type "dict_itemiterator", data := .fields #[.none, .bool false, .ref a, .int 0 0, .int kvs.length 0, .int ep 0, .none, .none] } →
      codeAny (model C.prog C.w) A (.forLoop tgt (.ref I) body [] env) (LoopR C A env E Q) { s with heap := H0 }) :
    wpAny (model C.prog C.w) A (exec (.For tgt (.Call (.Attribute dE "items" ap) [] [] cp) body [] p) env) Q E s := by
  refine wpAny_For ?_ hse
  refine wpAny_Call_items (knd := strKind C.prog C.w) big q1.dictOf hb hl1 hdE ?_
  refine wpAny_pyIter_items (knd := strKind C.prog C.w) (d := a) (kvs := kvs) (ep := ep) ⟨_, Heap.get?_push_size _ rfl, rfl, rfl⟩ (q1.push _) ?_
  refine k _ _ (fun b o e => Heap.get?_push_of_some _ (Heap.get?_push_of_some _ e)) ?_ ?_ (Heap.get?_push_size _ rfl)
  · cases e : s.heap.get? (s.heap.push { cls := .type "dict_items", data := .fields #[.ref a] }).objs.size with
    | none => rfl
    | some o => exact absurd (Heap.lt_size (Heap.get?_push_of_some _ e)) (Nat.lt_irrefl _)
  · exact Heap.lt_size (Heap.get?_push_size (o := { cls := .type "dict_items", data := .fields #[.ref a] }) s.heap rfl)

theorem ex_rep {si ki vi di : Nat} {kp vp tp dp ap cp tp2 sp mp k2 v2 rp ap2 p : Pos} {Q : Flow → Shared → Prop} (ok0 : C.Ok) (V₀ : EnvOk C N sc env A₀) (hA : AOk A d) (ok : MS.ok N sc (.rep si ki vi di kp vp tp dp ap cp tp2 sp mp k2 v2 rp ap2 p) = true)
    (hs : stepS C.X S (.rep si ki vi di kp vp tp dp ap cp tp2 sp mp k2 v2 rp ap2 p) m h = some (f, m', h')) (G : Gd C.w C.L C.G β s.toks h s.heap) (Fm : Frm C.L C.G N β s.toks m A₀ s.heap) (pst : PstX C N A₀ s β f m' h' Q) :
    GX C N env A Q E s (MS.rep si ki vi di kp vp tp dp ap cp tp2 sp mp k2 v2 rp ap2 p) := by
  have O := rep_ok ok
  have nkv := slot_ne V₀.nd (slot_lt O.okk) (slot_lt O.okv) O.hkv
  have nsk := slot_ne V₀.nd (slot_lt O.oks) (slot_lt O.okk) O.hsk
  have nsv := slot_ne V₀.nd (slot_lt O.oks) (slot_lt O.okv) O.hsv
  obtain ⟨dv, ep, es, e1, hob, e2, rfl, rfl⟩ := rep_inv hs
  clear hs ok
  obtain ⟨a, kvs, hDi, ry, big, q1, q2⟩ : ∃ a kvs, (∀ Q', Q' (.ref a) s → wpAny (model C.prog C.w) A (eval (.Name (N.slots.getD di default) dp) env) Q' E s) ∧ VR C.L β s.toks dv (.ref a) ∧ (a == sysModules) = false ∧ s.heap.DictAt (strKind C.prog C.w) a kvs ep ∧ kvs.length = es.length := by
    obtain ⟨⟨fm, hn, lr⟩, cl, out, new⟩ := Fm
    obtain ⟨y, hy, ry⟩ := FrmF.get ⟨hn, lr, cl, out, new⟩ V₀ O.okd e1
    obtain ⟨a, ob, rfl, ha, r, big0⟩ := obj_at ok0 G hob ry
    obtain ⟨ents, rfl, al, nd, le⟩ := r
    obtain ⟨kvs, q1, q2⟩ := dictAt_of (C := C) ha al nd
    exact ⟨a, kvs, fun Q' k => loadF V₀ O.okd O.d4 hn hy k, ry, big0 (fun vs e => by cases e), q1, q2⟩
  refine for_items (tgt := repT N ki vi kp vp tp) (body := repB N si ki vi tp2 sp mp k2 v2 rp ap2) (kvs := kvs) (ep := ep) big q1 O.l1 rfl hDi (fun _ => rfl) fun H0 I k0 hI0 hIs hit0 => ?_
  have gI : I ∉ β ∧ C.G.get? I = none := by
    constructor
    · intro hm
      obtain ⟨k, hk⟩ := List.getElem?_of_mem hm
      obtain ⟨ob, q, _⟩ := G.objs k _ _ (List.getElem?_eq_getElem (by rw [← G.len]; exact (List.getElem?_eq_some_iff.mp hk).1)) hk
      rw [q] at hI0; cases hI0
    · cases e : C.G.get? I with
      | none => rfl
      | some o => rw [G.base _ _ e] at hI0; cases hI0
  have hne : ¬ A₀.own I := by
    intro ho
    obtain ⟨o, ho⟩ := Fm.at ho
    rw [ho] at hI0; cases hI0
  refine codeAny_forLoop_any (I := RepI C N A₀ si ki vi es a I kvs.length ep s β h' m') (fun n s1 q => show Turn C A env (LoopR C A env E Q) (repT N ki vi kp vp tp) (.ref I) (repB N si ki vi tp2 sp mp k2 v2 rp ap2) (RepI C N A₀ si ki vi es a I kvs.length ep s β h' m') n s1 from ?_) es.length
    ⟨0, β, H0, s.toks, m, .none, .none, rfl, rfl, Nat.le_refl _, ⟨Pre.refl _, fun b o n _ e => ⟨k0 b o e, n⟩⟩, gI.1, G.grow k0, Fm.ext (Ext.grow k0) (Nat.le_refl _), hit0, e2⟩
  obtain ⟨i, β1, H1, T1, m1, ok, ov, hn, rfl, t1, x1, hI1, g1, f1, hit1, e⟩ := q
  have ry1 : VR C.L β1 T1 dv (.ref a) := ry.mono x1.pre t1
  obtain ⟨a', ob1, ea, ha1, r1, _⟩ := obj_at ok0 g1 hob ry1
  cases ea
  obtain ⟨ents1, rfl, al1, nd1, le1⟩ := r1
  have hz : ents1.size = kvs.length := by rw [q2, al1.length]; simp
  rcases Nat.lt_or_ge i es.length with hlt | hge
  · have hv : es[i]? = some es[i] := List.getElem?_eq_getElem hlt
    rw [List.drop_eq_getElem_cons hlt] at e
    obtain ⟨en, hen, t, h1, h2, h3, h4, h5, h6, h7⟩ := All2.at al1 hv
    obtain ⟨k, v, l, hev, hl, hk0, hlen, e⟩ := reps_inv e
    rw [hev] at h1 h2 h3 h6
    obtain ⟨u, hu, u0, u9, ul⟩ := h3
    have hne2 : t ≠ u := fun z => h7 rfl _ u hu z.symm
    have hnI := gI.2
    refine next_pair (s := { s with heap := H1, toks := T1 }) (I := I) (a := a) (i := i) (ep := ep) (ents := ents1) (by rw [hz]; exact hit1) ha1 hen fun H2 i2 tu2 k2' => ?_
    obtain ⟨⟨fm1, hn1, lr1⟩, cl1, out1, new1⟩ := f1
    refine rep_turn (s := { s with heap := H2, toks := T1 }) ok0 V₀ hA O.oks O.okk O.okv nkv nsk nsv O.l2 O.d1 O.d2 O.d3 i2 tu2 hI1 hnI hne (Nat.ne_of_gt (Heap.lt_size hit1)) (g1.but hI1 hnI k2') (FrmF.but ⟨hn1, lr1, cl1, out1, new1⟩ hne k2') hl h1 hu h4 h5 h6 u0 u9 ul hne2 hk0 hlen fun β8 H9 T9 t9 p9 x9 i9 n9 g9 f9 => ?_
    have x2 := x1.butI hI0 k2'
    have xx : ExtF A₀ β s.heap β8 H9 := ⟨x2.pre.trans p9, fun b o q1 q2 e => let ⟨e1, n1⟩ := x2.keep b o q1 q2 e; x9 b o n1 q2 (fun z => by rw [z, hI0] at e; cases e) e1⟩
    exact ⟨n - 1, by omega, i + 1, β8, H9, T9, _, en.key, en.val, by omega, rfl, Nat.le_trans t1 t9, xx, n9, g9, f9, by rw [← hz]; exact i9, e⟩
  · have hi : i = es.length := by omega
    subst hi
    rw [List.drop_length] at e
    cases e
    obtain ⟨kvs1, q3, q4⟩ := dictAt_of (C := C) ha1 al1 nd1
    refine wpAny_pyNext_items_end (s := { s with heap := H1, toks := T1 }) (knd := strKind C.prog C.w) (it := I) (d := a) (i := es.length) (ep := ep) (kvs := kvs1) (ok := ok) (ov := ov) hA.hd (by rw [q4.trans q2.symm]; exact hit1) q3 (List.getElem?_eq_none (by omega)) fun H2 hs2 => ?_
    refine wpAny_execs_nil ?_
    exact pst .next β1 H2 T1 t1 (x1.butI hI0 hs2) (g1.but hI1 gI.2 hs2) (f1.but hne hs2) rfl
end
end Mine

end

section
open PySem PySem.Calls PyProof.Rows PySem.W
namespace Mine

/-- what a def is in the model, and in the small language -/
structure FnOk (C : Cx) (fn : Fn) (a : Addr) (o : Obj) (fd : FuncData) (N : Nm) : Prop where
  ho : C.G.get? a = some o
  data : o.data = .func fd
  body : fd.body = .stmts (fn.body.back N)
  ok : fn.body.ok N fd.scope = true
  code : C.G.CodeRec fd.code fd.qualname
  ndn : (fd.scope.names.map (·.1)).Nodup
  clo : fd.closure = []
  loc : ∀ x ∈ N.slots.take fn.np, fd.scope.names.lookup x = some .local ∨ fd.scope.names.lookup x = some .cell
  glo : fd.globals = mainGlobals
  blt : fd.builtins = builtinsNs
  co : fd.scope.isCoroutine = false
  gen : fd.scope.isGenerator = false
  kind : fd.scope.kind = .function
  globs : N.globs = C.globs
  nd : N.slots.Nodup
  ns : N.slots.length = fn.nslots
  np : fn.np ≤ fn.nslots
  bind : ∀ (s : Shared) (xs : List Value), (∀ b o, C.G.get? b = some o → s.heap.get? b = some o) → xs.length = fn.np → BindsTo s fd ⟨xs, []⟩ ((N.slots.take fn.np).zip xs)
  bindD : ∀ j, fn.dflt = some j → ∃ x, VR C.L [] 0 (.ext j) x ∧ ∀ (s : Shared) (xs : List Value), (∀ b o, C.G.get? b = some o → s.heap.get? b = some o) → xs.length + 1 = fn.np → BindsTo s fd ⟨xs, []⟩ ((N.slots.take fn.np).zip (xs ++ [x]))

section
variable {C : Cx} {N : Nm} {sc : Scope} {env : Env} {A₀ : Pf} {A : Around} {d : Nat} {m m' : M} {h h' : Hp} {f : Fl} {s : Shared} {β : List Addr} {E : Value → Shared → Prop} {S : Sm}

theorem lookup_in {x : Str} {y : Value} : ∀ {l : List (Str × Value)}, (l.map (·.1)).Nodup → (x, y) ∈ l → l.lookup x = some y
  | (k, v) :: r, nd, hm => by
    rw [List.lookup_cons]
    cases hm with
    | head => simp
    | tail _ hm =>
      have hne : (x == k) = false := by
        refine beq_eq_false_iff_ne.mpr fun e => ?_
        exact (List.nodup_cons.mp nd).1 (e ▸ List.mem_map.mpr ⟨_, hm, rfl⟩)
      rw [hne]
      exact lookup_in (List.nodup_cons.mp nd).2 hm
theorem lookup_out {x : Str} : ∀ {l : List (Str × Value)}, x ∉ l.map (·.1) → l.lookup x = none
  | [], _ => rfl
  | (k, v) :: r, hm => by
    rw [List.lookup_cons]
    have hne : (x == k) = false := beq_eq_false_iff_ne.mpr fun e => hm (e ▸ .head _)
    rw [hne]
    exact lookup_out fun q => hm (.tail _ q)

theorem cellsFrom_mem : ∀ {names : List (Str × NameKind)} {n : Nat} {acc : List (Str × Addr)} {x : Str} {c : Addr}, (x, c) ∈ cellsFrom n names acc → (x, c) ∈ acc ∨ (x, NameKind.cell) ∈ names
  | [], _, _, _, _, h => .inl h
  | (y, k) :: r, n, acc, x, c, h => by
    unfold cellsFrom at h
    split at h
    · rename_i hk
      rcases cellsFrom_mem h with q | q
      · rcases List.mem_cons.mp q with q | q
        · cases q; exact .inr (by rw [beq_iff_eq.mp hk]; exact .head _)
        · exact .inl q
      · exact .inr (.tail _ q)
    · rcases cellsFrom_mem h with q | q
      · exact .inl q
      · exact .inr (.tail _ q)
theorem cellsFrom_acc : ∀ {names : List (Str × NameKind)} {n : Nat} {acc : List (Str × Addr)} {x : Str} {c : Addr}, (x, c) ∈ acc → (x, c) ∈ cellsFrom n names acc
  | [], _, _, _, _, h => h
  | (y, k) :: r, n, acc, x, c, h => by
    unfold cellsFrom
    split
    · exact cellsFrom_acc (.tail _ h)
    · exact cellsFrom_acc h
theorem cellsFrom_has : ∀ {names : List (Str × NameKind)} {n : Nat} {acc : List (Str × Addr)} {x : Str}, (x, NameKind.cell) ∈ names → ∃ c, (x, c) ∈ cellsFrom n names acc
  | (y, k) :: r, n, acc, x, h => by
    unfold cellsFrom
    rcases List.mem_cons.mp h with q | q
    · cases q
      exact ⟨n, by rw [if_pos (show (NameKind.cell == NameKind.cell) = true from rfl)]; exact cellsFrom_acc (.head _)⟩
    · split
      · exact cellsFrom_has q
      · exact cellsFrom_has q
theorem lookup_nd {n : Str} {k : NameKind} : ∀ {l : List (Str × NameKind)}, (l.map (·.1)).Nodup → (n, k) ∈ l → l.lookup n = some k
  | (a, b) :: r, nd, h => by
    rw [List.map_cons, List.nodup_cons] at nd
    rw [List.lookup_cons]
    rcases List.mem_cons.mp h with q | q
    · cases q; simp
    · have : (n == a) = false := beq_eq_false_iff_ne.mpr fun e => nd.1 (e ▸ List.mem_map.mpr ⟨_, q, rfl⟩)
      rw [this]
      exact lookup_nd nd.2 q
theorem bindL_other {kindOf : Str → Option NameKind} {x : Str} : ∀ {binds : List (Str × Value)} {m : Str → Option Value}, x ∉ binds.map (·.1) → bindL kindOf binds m x = m x
  | [], _, _ => rfl
  | (n, v) :: r, m, h => by
    unfold bindL
    rw [bindL_other fun q => h (.tail _ q)]
    split
    · show (if x = n then some v else m x) = m x
      exact if_neg fun e => h (by rw [e]; exact .head _)
    · rfl
theorem bindC_other {kindOf : Str → Option NameKind} {x : Str} : ∀ {binds : List (Str × Value)} {m : Str → Option Value}, x ∉ binds.map (·.1) → bindC kindOf binds m x = m x
  | [], _, _ => rfl
  | (n, v) :: r, m, h => by
    unfold bindC
    rw [bindC_other fun q => h (.tail _ q)]
    split
    · rfl
    · show (if x = n then some v else m x) = m x
      exact if_neg fun e => h (by rw [e]; exact .head _)
theorem zip_take {α β : Type} : ∀ {l : List α} {xs : List β}, (l.take xs.length).zip xs = l.zip xs
  | [], _ => by simp
  | _ :: _, [] => by simp
  | a :: l, x :: xs => by
    rw [List.length_cons, List.take_succ_cons, List.zip_cons_cons, List.zip_cons_cons, zip_take]
theorem bindL_in {kindOf : Str → Option NameKind} {x : Str} {y : Value} (hk : kindOf x = some .local) : ∀ {binds : List (Str × Value)} {m : Str → Option Value}, (binds.map (·.1)).Nodup → (x, y) ∈ binds → bindL kindOf binds m x = some y
  | (n, v) :: r, m, nd, h => by
    rw [List.map_cons, List.nodup_cons] at nd
    unfold bindL
    rcases List.mem_cons.mp h with q | q
    · cases q
      rw [if_pos hk, bindL_other nd.1]
      exact if_pos rfl
    · exact bindL_in hk nd.2 q
theorem bindC_in {kindOf : Str → Option NameKind} {x : Str} {y : Value} (hk : ¬ kindOf x = some .local) : ∀ {binds : List (Str × Value)} {m : Str → Option Value}, (binds.map (·.1)).Nodup → (x, y) ∈ binds → bindC kindOf binds m x = some y
  | (n, v) :: r, m, nd, h => by
    rw [List.map_cons, List.nodup_cons] at nd
    unfold bindC
    rcases List.mem_cons.mp h with q | q
    · cases q
      rw [if_neg hk, bindC_other nd.1]
      exact if_pos rfl
    · exact bindC_in hk nd.2 q
/-- the frame's slots and the call's arguments -/
theorem start_get {T : Nat} {vs : List V} {xs : List Value} {k : Nat} {slots : List Str} {i : Nat} {v : V} (al : All2 (VR C.L β T) vs xs) (hi : i < slots.length) (e : (vs.map some ++ List.replicate k none).getD i none = some v) : ∃ y, (slots.getD i default, y) ∈ slots.zip xs ∧ VR C.L β T v y := by
  rw [List.getD_eq_getElem?_getD] at e
  rcases Nat.lt_or_ge i vs.length with h | h
  · rw [List.getElem?_append_left (by simpa using h), List.getElem?_map, List.getElem?_eq_getElem h] at e
    obtain ⟨y, h1, h2⟩ := al.get (List.getElem?_eq_getElem h)
    refine ⟨y, ?_, by cases e; exact h2⟩
    have : (slots.zip xs)[i]? = some (slots[i], y) := by
      rw [List.getElem?_zip_eq_some]
      exact ⟨List.getElem?_eq_getElem hi, h1⟩
    rw [List.getD_eq_getElem?_getD, List.getElem?_eq_getElem hi]
    exact List.mem_of_getElem? this
  · rw [List.getElem?_append_right (by simpa using h), List.getElem?_replicate] at e
    split at e <;> cases e

/-- a call of a def that may have cells -/
theorem call_def {R : Result → Shared → Prop} {a : Addr} {o : Obj} {fd : FuncData} {body : List Stmt} {args : Args} {binds : List (Str × Value)}
    (hroom : A.depth < recursionLimit) (ho : s.heap.get? a = some o) (hdata : o.data = .func fd) (hlim : s.heap.NoLimit) (hcd : s.heap.CodeRec fd.code fd.qualname)
    (hbody : fd.body = .stmts body) (hbind : BindsTo s fd args binds) (hclo : fd.closure = [])
    (hkind : ∀ x ∈ binds, fd.scope.names.lookup x.1 = some .local ∨ (fd.scope.names.lookup x.1 = some .cell ∧ ((cellsFrom (s.heap.objs.size + 1) fd.scope.names []).lookup x.1).isSome = true))
    (h : ∀ s₁, s.toks ≤ s₁.toks → InCallC s (callEnvC fd s.heap.objs.size a).locals (bindL (callEnvC fd s.heap.objs.size a).kindOf binds fun _ => none) (callEnvC fd s.heap.objs.size a).cells
        (bindC (callEnvC fd s.heap.objs.size a).kindOf binds fun _ => none) s₁ →
      wpAny (model C.prog C.w) (A.deeper (callEnvC fd s.heap.objs.size a)) (execs body (callEnvC fd s.heap.objs.size a)) (fun f s' => R (.ok (.ret (match f with | .ret v => v | _ => .none))) s')
        (fun e s' => wpAny (model C.prog C.w) (A.deeper (callEnvC fd s.heap.objs.size a)) (leaving (callEnvC fd s.heap.objs.size a) e) (fun _ s'' => R (.error e) s'') (fun e' s'' => R (.error e') s'') s') s₁)
    (hco : fd.scope.isCoroutine = false) (hgen : fd.scope.isGenerator = false) (hk : fd.scope.kind = .function) :
    codeAny (model C.prog C.w) A (.call (.ref a) args) R s := by
  refine codeAny_call_function hroom ho hdata hco hgen hbody hcd (hbind _ _ _ _ ?_)
  rw [hclo]
  refine with_toks (wpAny_newFunctionEnv_cells hk hkind fun env he s' x tt => ?_)
  subst he
  exact ⟨hlim.keeps x.toInCall.keep, codeAny_func (h s' tt x)⟩

theorem stepS_sound (ok0 : C.Ok) (ih : SEv C S d) (it : STr C S d) (ix : SEx C S d) (dn : ∀ (e : ME) (m : M) (h : Hp) r, S.ev e m h = some r → ∃ S', SEv C S' d ∧ STr C S' d ∧ stepE C.X S' e m h = some r) (hev : ∀ (c : C0) (p : Pos) (m : M) (h : Hp) r, S.ev (.cst c p) m h = some r → r = (c.val, h))
    (hlo : ∀ (i : Nat) (p : Pos) (m : M) (h : Hp) r, S.ev (.loc i p) m h = some r → stepE C.X S (.loc i p) m h = some r) {Q : Flow → Shared → Prop}
    (t : MS) (V₀ : EnvOk C N sc env A₀) (hA : AOk A d) (ok : t.ok N sc = true) (hs : stepS C.X S t m h = some (f, m', h')) (G : Gd C.w C.L C.G β s.toks h s.heap) (Fm : Frm C.L C.G N β s.toks m A₀ s.heap) (pst : PstX C N A₀ s β f m' h' Q) :
    GX C N env A Q E s t := by
  cases t with
  | asg i tp e p => exact ex_asg ih V₀ hA ok hs G Fm pst
  | asg2 i j tpi tpj tp a b vp p => exact ex_asg2 ih V₀ hA ok hs G Fm pst
  | asgc i tp e p => exact ex_asgc ok0 dn V₀ hA ok hs G Fm pst
  | sets o i tp e p => exact ex_sets ok0 ih hev hlo V₀ hA ok hs G Fm pst
  | ite t b o p => exact ex_ite it ix V₀ hA ok hs G Fm pst
  | for1 x xp i b p => exact ex_for1 ok0 ih ix V₀ hA ok hs G Fm pst
  | rep _ _ _ _ _ _ _ _ _ _ _ _ _ _ _ _ _ _ => exact ex_rep ok0 V₀ hA ok hs G Fm pst
  | ret e p => exact ex_ret ih V₀ hA ok hs G Fm pst
  | app o e ap cp p => exact ex_app ih V₀ hA ok hs G Fm pst

theorem stepX_sound (ok0 : C.Ok) (ih : SEv C S d) (it : STr C S d) (ix : SEx C S d) (dn : ∀ (e : ME) (m : M) (h : Hp) r, S.ev e m h = some r → ∃ S', SEv C S' d ∧ STr C S' d ∧ stepE C.X S' e m h = some r) (hev : ∀ (c : C0) (p : Pos) (m : M) (h : Hp) r, S.ev (.cst c p) m h = some r → r = (c.val, h))
    (hlo : ∀ (i : Nat) (p : Pos) (m : M) (h : Hp) r, S.ev (.loc i p) m h = some r → stepE C.X S (.loc i p) m h = some r) {Q : Flow → Shared → Prop}
    (b : MSs) (V₀ : EnvOk C N sc env A₀) (hA : AOk A d) (ok : b.ok N sc = true) (hs : stepX C.X S b m h = some (f, m', h')) (G : Gd C.w C.L C.G β s.toks h s.heap) (Fm : Frm C.L C.G N β s.toks m A₀ s.heap) (pst : PstX C N A₀ s β f m' h' Q) :
    wpAny (model C.prog C.w) A (execs (b.back N) env) Q E s := by
  cases b with
  | nil =>
    cases hs
    exact wpAny_execs_nil (pst .next β s.heap s.toks (Nat.le_refl _) (ExtF.refl _ _ _) G Fm rfl)
  | cons t r =>
    replace ok := (show (_ && _) = true from ok)
    simp only [Bool.and_eq_true] at ok
    obtain ⟨⟨f1, m1, h1⟩, e1, hs⟩ := bind_some hs
    refine wpAny_execs_cons ?_
    refine stepS_sound ok0 ih it ix dn hev hlo t V₀ hA ok.1 e1 G Fm fun x β1 H1 T1 t1 x1 g1 fr1 r1 => ?_
    cases f1 with
    | next =>
      cases r1
      exact ix r N sc env A₀ A m1 m' h1 h' f ok.2 V₀ hA hs { s with heap := H1, toks := T1 } β1 Q E g1 fr1 (pst.step t1 x1)
    | cont => cases r1; cases hs; exact pst .cont β1 H1 T1 t1 x1 g1 fr1 rfl
    | brk => cases r1; cases hs; exact pst .brk β1 H1 T1 t1 x1 g1 fr1 rfl
    | ret v => obtain ⟨y, rfl, r⟩ := r1; cases hs; exact pst _ β1 H1 T1 t1 x1 g1 fr1 ⟨y, rfl, r⟩

noncomputable def retV : Fl → V
  | .ret v => v
  | _ => .none

theorem stepC_sound (ok0 : C.Ok) (Fk : ∀ (g : Nat) (fn : Fn), C.F[g]? = some fn → ∃ a o fd N, C.L.fa[g]? = some a ∧ FnOk C fn a o fd N) (ix : SEx C S d) {g : Nat} {vs : List V} {v : V} {R : Result → Shared → Prop} {a : Addr} {xs : List Value}
    (hA : AOk A (d + 1)) (hs : stepC C.F S g vs h = some (v, h')) (ha : C.L.fa[g]? = some a) (r : All2 (VR C.L β s.toks) vs xs) (G : Gd C.w C.L C.G β s.toks h s.heap) (pst : Pst C s β h' v (fun x s' => R (.ok (.ret x)) s')) :
    codeAny (model C.prog C.w) A (.call (.ref a) ⟨xs, []⟩) R s := by
  obtain ⟨fn, e1, hs⟩ := bind_some hs
  obtain ⟨a', o, fd, N, ha', K⟩ := Fk g fn e1
  rw [ha] at ha'
  cases ha'
  obtain ⟨vs', e2, hs⟩ := bind_some hs
  obtain ⟨⟨fl, m', h1⟩, e3, hs⟩ := map_some hs
  have hv : v = retV fl ∧ h1 = h' := by
    cases fl <;> (cases hs; exact ⟨rfl, rfl⟩)
  clear hs
  obtain ⟨rfl, rfl⟩ := hv
  obtain ⟨xs', hlen, hr, hb⟩ : ∃ xs', vs'.length = fn.np ∧ All2 (VR C.L β s.toks) vs' xs' ∧ BindsTo s fd ⟨xs, []⟩ ((N.slots.take fn.np).zip xs') := by
    split at e2
    · rename_i hl
      cases e2
      exact ⟨xs, hl, r, K.bind s xs G.base (by rw [← r.length]; exact hl)⟩
    · split at e2
      · rename_i j hj
        split at e2
        · rename_i hl
          cases e2
          obtain ⟨x, rx, hx⟩ := K.bindD j hj
          refine ⟨xs ++ [x], by simpa using hl, All2.append r ⟨rx.mono ⟨β, rfl⟩ (Nat.zero_le _), trivial⟩, hx s xs G.base (by rw [← r.length]; exact hl)⟩
        · cases e2
      · cases e2
  have hxl : xs'.length = fn.np := by rw [← hr.length]; exact hlen
  have htl : (N.slots.take fn.np).length = fn.np := by
    rw [List.length_take, K.ns]; exact Nat.min_eq_left K.np
  have hb0 : ((N.slots.take fn.np).zip xs').map (·.1) = N.slots.take fn.np := by
    rw [List.map_fst_zip (by rw [htl, hxl]; exact Nat.le_refl _)]
  obtain ⟨c, co, cvs, ct, hcd⟩ := K.code
  have hnd : (((N.slots.take fn.np).zip xs').map (·.1)).Nodup := by rw [hb0]; exact K.nd.sublist (List.take_sublist _ _)
  have hcl : ∀ x, fd.scope.names.lookup x = some .cell → ∃ c, (cellsFrom (s.heap.objs.size + 1) fd.scope.names []).lookup x = some c := fun x hx => let ⟨_, hc⟩ := cellsFrom_has (n := s.heap.objs.size + 1) (acc := []) (mem_of_lookup hx); lookup_has hc
  have hcn : ∀ x c, (cellsFrom (s.heap.objs.size + 1) fd.scope.names []).lookup x = some c → fd.scope.names.lookup x = some .cell := fun x c hx => by
    rcases cellsFrom_mem (mem_of_lookup hx) with q | q
    · cases q
    · exact lookup_nd K.ndn q
  have hpk : ∀ p ∈ (N.slots.take fn.np).zip xs', fd.scope.names.lookup p.1 = some .local ∨ fd.scope.names.lookup p.1 = some .cell := fun p hp => K.loc p.1 (by rw [← hb0]; exact List.mem_map.mpr ⟨p, hp, rfl⟩)
  refine call_def (Nat.lt_of_le_of_lt (Nat.le_add_right _ _) hA.dep) (G.base _ _ K.ho) K.data (ok0.nolimit.keeps G.base) ⟨c, co, cvs, ct, hcd.1, G.base _ _ hcd.2.1, hcd.2.2⟩ K.body hb K.clo (fun p hp => ?_) ?_ K.co K.gen K.kind
  · rcases hpk p hp with q | q
    · exact .inl q
    · obtain ⟨c, hc⟩ := hcl _ q
      exact .inr ⟨q, by rw [hc]; rfl⟩
  intro s₁ hT X
  obtain ⟨h₀, tk, rfl, hk⟩ := X.done
  have hA' : AOk (A.deeper (callEnvC fd s.heap.objs.size a)) d := by
    obtain ⟨a1, a2, a3⟩ := hA
    refine ⟨a1, ?_, ?_⟩
    · rw [depth_deeper]; omega
    · rw [units_deeper]; omega
  have V₀ : EnvOk C N fd.scope (callEnvC fd s.heap.objs.size a) ⟨s.heap.objs.size, cellsFrom (s.heap.objs.size + 1) fd.scope.names [], fun _ => true⟩ := by
    refine ⟨rfl, K.kind, rfl, rfl, fun _ _ => rfl, hcl, fun x hx => ?_, fun n n' c e1 e2 => ?_, K.glo, K.blt, K.globs, K.nd⟩
    · cases e : (cellsFrom (s.heap.objs.size + 1) fd.scope.names []).lookup x with
      | none => rfl
      | some c => have := hcn x c e; rw [hx] at this; cases this
    · exact name_of_addr X.apart (mem_of_lookup e1) (mem_of_lookup e2)
  have hnew : ∀ b, b ∈ β → b < s.heap.objs.size := fun b hb => by
    obtain ⟨k, hk⟩ := List.getElem?_of_mem hb
    obtain ⟨ob, q, _⟩ := G.objs k _ _ (List.getElem?_eq_getElem (by rw [← G.len]; exact (List.getElem?_eq_some_iff.mp hk).1)) hk
    exact Heap.lt_size q
  have hown : ∀ b, Pf.own ⟨s.heap.objs.size, cellsFrom (s.heap.objs.size + 1) fd.scope.names [], fun _ => true⟩ b → s.heap.objs.size ≤ b := by
    rintro b (rfl | ⟨x, hx⟩)
    · exact Nat.le_refl _
    · exact Nat.le_of_lt (X.above x b (mem_of_lookup hx))
  have Fm : Frm C.L C.G N β tk (vs'.map some ++ List.replicate (fn.nslots - fn.np) none) ⟨s.heap.objs.size, cellsFrom (s.heap.objs.size + 1) fd.scope.names [], fun _ => true⟩ h₀ := by
    have hz : ∀ {i : Nat} {v : V}, i < N.slots.length → (vs'.map some ++ List.replicate (fn.nslots - fn.np) none).getD i none = some v → ∃ y, (N.slots.getD i default, y) ∈ (N.slots.take fn.np).zip xs' ∧ VR C.L β tk v y := by
      intro i v hi e
      obtain ⟨y, h1, h2⟩ := start_get (slots := N.slots) hr hi e
      refine ⟨y, ?_, h2.mono (Pre.refl _) hT⟩
      have : (N.slots.take fn.np).zip xs' = N.slots.zip xs' := by
        rw [← hxl]; exact zip_take
      rw [this]
      exact h1
    refine ⟨⟨_, X.toInCall.ns, fun i v hi e1 _ e3 => ?_⟩, fun x c hc => ?_, fun b hb hm => Nat.lt_irrefl _ (Nat.lt_of_lt_of_le (hnew b hm) (hown b hb)), fun b hb => ?_⟩
    · obtain ⟨y, h1, h2⟩ := hz hi e1
      have hk : (callEnvC fd s.heap.objs.size a).kindOf (N.slots.getD i default) = some .local := by
        rcases hpk _ h1 with q | q
        · exact q
        · obtain ⟨c, hc⟩ := hcl _ q
          rw [show (cellsFrom (s.heap.objs.size + 1) fd.scope.names []).lookup (N.slots.getD i default) = none from e3] at hc
          cases hc
      exact ⟨y, bindL_in hk hnd h1, h2⟩
    · refine ⟨_, X.cell x c hc, fun i v hi e1 e2 => ?_⟩
      obtain ⟨y, h1, h2⟩ := hz hi e2
      rw [e1] at h1
      refine ⟨y, bindC_in (fun q => ?_) hnd h1, h2⟩
      have := hcn x c hc
      rw [show fd.scope.names.lookup x = some .local from q] at this
      cases this
    · cases e : C.G.get? b with
      | none => rfl
      | some o => exact absurd (Heap.lt_size (G.base _ _ e)) (Nat.not_lt.mpr (hown b hb))
  refine ix fn.body N fd.scope _ _ _ _ m' h h1 fl K.ok V₀ hA' e3 { s with heap := h₀, toks := tk } β _ _ ((G.grow hk).toks hT) Fm fun y β' H' T' t1 x1 g1 f1 r1 => ?_
  have xx : Ext β s.heap β' H' := ⟨x1.pre, fun b o n e => x1.keep b o n (fun z => Nat.lt_irrefl _ (Nat.lt_of_lt_of_le (Heap.lt_size e) (hown b z))) (hk b o e)⟩
  have tt := Nat.le_trans hT t1
  cases fl with
  | next => cases r1; exact pst _ β' H' T' tt xx g1 rfl
  | brk => cases r1; exact pst _ β' H' T' tt xx g1 rfl
  | cont => cases r1; exact pst _ β' H' T' tt xx g1 rfl
  | ret v => obtain ⟨z, rfl, r⟩ := r1; exact pst _ β' H' T' tt xx g1 r

structure Snd (C : Cx) (S : Sm) (d : Nat) : Prop where
  ev : SEv C S d
  tr : STr C S d
  cl : SCl C S d
  ex : SEx C S d
  cst : ∀ (c : C0) (p : Pos) (m : M) (h : Hp) r, S.ev (.cst c p) m h = some r → r = (c.val, h)
  loc : ∀ (i : Nat) (p : Pos) (m : M) (h : Hp) r, S.ev (.loc i p) m h = some r → stepE C.X S (.loc i p) m h = some r
  dn : ∀ (e : ME) (m : M) (h : Hp) r, S.ev e m h = some r → ∃ S', SEv C S' d ∧ STr C S' d ∧ stepE C.X S' e m h = some r

theorem snd (ok0 : C.Ok) (Fk : ∀ (g : Nat) (fn : Fn), C.F[g]? = some fn → ∃ a o fd N, C.L.fa[g]? = some a ∧ FnOk C fn a o fd N) : ∀ n d, Snd C (Mi C.F C.X n d) d
  | 0, d => by
    refine ⟨?_, ?_, ?_, ?_, ?_, ?_, ?_⟩
    · intro e N sc env A₀ A m h h' v _ _ _ e1; cases e1
    · intro e N sc env A₀ A m h h' v t _ _ _ e1; cases e1
    · intro g vs h h' v A _ e1; cases e1
    · intro b N sc env A₀ A m m' h h' f _ _ _ e1; cases e1
    · intro c p m h r e; cases e
    · intro c p m h r e; cases e
    · intro x m h r e; cases e
  | n + 1, d => by
    have I := snd ok0 Fk n d
    refine ⟨?_, ?_, ?_, ?_, ?_, ?_, ?_⟩
    · intro e N sc env A₀ A m h h' v ok V₀ hA hs s β Q E G Fm pst
      exact stepE_sound ok0 I.ev I.tr I.cl I.cst e ok V₀ hA hs G Fm pst
    · intro e N sc env A₀ A m h h' v t ok V₀ hA hs ht s β Q E G Fm k
      exact stepT_sound ok0 I.ev I.tr I.cl I.cst e ok V₀ hA hs ht G Fm k
    · cases d with
      | zero => intro g vs h h' v A _ e1; cases e1
      | succ d =>
        intro g vs h h' v A hA hs s β a xs R ha r G pst
        exact stepC_sound ok0 Fk (snd ok0 Fk n d).ex hA hs ha r G pst
    · intro b N sc env A₀ A m m' h h' f ok V₀ hA hs s β Q E G Fm pst
      exact stepX_sound ok0 I.ev I.tr I.ex I.dn I.cst I.loc b V₀ hA ok hs G Fm pst
    · intro c p m h r e; cases e; rfl
    · intro i p m h r e; exact e
    · intro x m h r e; exact ⟨_, I.ev, I.tr, e⟩
end
end Mine

end

section
open PySem
namespace Mine
noncomputable def scp (l : List (String × NameKind)) : Scope := ⟨.function, l.map fun (n, k) => (Str.ofString n, k), false, false, []⟩
noncomputable def fnames : List Str := [Str.ofString "dict_replace_saxutils", Str.ofString "escape", Str.ofString "unescape", Str.ofString "quoteattr", Str.ofString "_law_sign", Str.ofString "_law_ends", Str.ofString "_law_slices", Str.ofString "law"]
noncomputable def nm_dict_replace_saxutils : Nm := ⟨[Str.ofString "s", Str.ofString "d", Str.ofString "key", Str.ofString "value"], fnames⟩
noncomputable def b_dict_replace_saxutils : MSs :=
 (.cons (.rep 0 2 3 1 ⟨3, 8, 3, 11⟩ ⟨3, 13, 3, 18⟩ ⟨3, 8, 3, 18⟩ ⟨3, 22, 3, 23⟩ ⟨3, 22, 3, 29⟩ ⟨3, 22, 3, 31⟩ ⟨4, 8, 4, 9⟩ ⟨4, 12, 4, 13⟩ ⟨4, 12, 4, 21⟩ ⟨4, 22, 4, 25⟩ ⟨4, 27, 4, 32⟩ ⟨4, 12, 4, 33⟩ ⟨4, 8, 4, 33⟩ ⟨3, 4, 4, 33⟩)
 (.cons (.ret (.loc 0 ⟨5, 11, 5, 12⟩) ⟨5, 4, 5, 12⟩)
 .nil))
noncomputable def nm_escape : Nm := ⟨[Str.ofString "data", Str.ofString "entities"], fnames⟩
noncomputable def b_escape : MSs :=
 (.cons (.asg 0 ⟨7, 4, 7, 8⟩ (.meth .replace (.loc 0 ⟨7, 11, 7, 15⟩) ⟨7, 11, 7, 23⟩ (.cons (.cst (.str "&") ⟨7, 24, 7, 27⟩) (.cons (.cst (.str "&amp;") ⟨7, 29, 7, 36⟩) .nil)) ⟨7, 11, 7, 37⟩) ⟨7, 4, 7, 37⟩)
 (.cons (.asg 0 ⟨8, 4, 8, 8⟩ (.meth .replace (.loc 0 ⟨8, 11, 8, 15⟩) ⟨8, 11, 8, 23⟩ (.cons (.cst (.str ">") ⟨8, 24, 8, 27⟩) (.cons (.cst (.str "&gt;") ⟨8, 29, 8, 35⟩) .nil)) ⟨8, 11, 8, 36⟩) ⟨8, 4, 8, 36⟩)
 (.cons (.asg 0 ⟨9, 4, 9, 8⟩ (.meth .replace (.loc 0 ⟨9, 11, 9, 15⟩) ⟨9, 11, 9, 23⟩ (.cons (.cst (.str "<") ⟨9, 24, 9, 27⟩) (.cons (.cst (.str "&lt;") ⟨9, 29, 9, 35⟩) .nil)) ⟨9, 11, 9, 36⟩) ⟨9, 4, 9, 36⟩)
 (.cons (.ite (.loc 1 ⟨10, 7, 10, 15⟩)
 (.cons (.asg 0 ⟨11, 8, 11, 12⟩ (.call (.glob 0 ⟨11, 15, 11, 36⟩) (.cons (.loc 0 ⟨11, 37, 11, 41⟩) (.cons (.loc 1 ⟨11, 43, 11, 51⟩) .nil)) ⟨11, 15, 11, 52⟩) ⟨11, 8, 11, 52⟩)
 .nil)
 .nil ⟨10, 4, 11, 52⟩)
 (.cons (.ret (.loc 0 ⟨12, 11, 12, 15⟩) ⟨12, 4, 12, 15⟩)
 .nil)))))
noncomputable def nm_unescape : Nm := ⟨[Str.ofString "data", Str.ofString "entities"], fnames⟩
noncomputable def b_unescape : MSs :=
 (.cons (.asg 0 ⟨14, 4, 14, 8⟩ (.meth .replace (.loc 0 ⟨14, 11, 14, 15⟩) ⟨14, 11, 14, 23⟩ (.cons (.cst (.str "&lt;") ⟨14, 24, 14, 30⟩) (.cons (.cst (.str "<") ⟨14, 32, 14, 35⟩) .nil)) ⟨14, 11, 14, 36⟩) ⟨14, 4, 14, 36⟩)
 (.cons (.asg 0 ⟨15, 4, 15, 8⟩ (.meth .replace (.loc 0 ⟨15, 11, 15, 15⟩) ⟨15, 11, 15, 23⟩ (.cons (.cst (.str "&gt;") ⟨15, 24, 15, 30⟩) (.cons (.cst (.str ">") ⟨15, 32, 15, 35⟩) .nil)) ⟨15, 11, 15, 36⟩) ⟨15, 4, 15, 36⟩)
 (.cons (.ite (.loc 1 ⟨16, 7, 16, 15⟩)
 (.cons (.asg 0 ⟨17, 8, 17, 12⟩ (.call (.glob 0 ⟨17, 15, 17, 36⟩) (.cons (.loc 0 ⟨17, 37, 17, 41⟩) (.cons (.loc 1 ⟨17, 43, 17, 51⟩) .nil)) ⟨17, 15, 17, 52⟩) ⟨17, 8, 17, 52⟩)
 .nil)
 .nil ⟨16, 4, 17, 52⟩)
 (.cons (.ret (.meth .replace (.loc 0 ⟨18, 11, 18, 15⟩) ⟨18, 11, 18, 23⟩ (.cons (.cst (.str "&amp;") ⟨18, 24, 18, 31⟩) (.cons (.cst (.str "&") ⟨18, 33, 18, 36⟩) .nil)) ⟨18, 11, 18, 37⟩) ⟨18, 4, 18, 37⟩)
 .nil))))
noncomputable def nm_quoteattr : Nm := ⟨[Str.ofString "data", Str.ofString "entities"], fnames⟩
noncomputable def b_quoteattr : MSs :=
 (.cons (.asg 1 ⟨20, 4, 20, 12⟩ (.dict (.yes (.loc 1 ⟨20, 18, 20, 26⟩)) (.cons (.cst (.str "\n") ⟨20, 28, 20, 32⟩) (.cons (.cst (.str "\r") ⟨20, 43, 20, 47⟩) (.cons (.cst (.str "\t") ⟨20, 58, 20, 62⟩) .nil))) (.cons (.cst (.str "&#10;") ⟨20, 34, 20, 41⟩) (.cons (.cst (.str "&#13;") ⟨20, 49, 20, 56⟩) (.cons (.cst (.str "&#9;") ⟨20, 64, 20, 70⟩) .nil))) ⟨20, 15, 20, 71⟩) ⟨20, 4, 20, 71⟩)
 (.cons (.asg 0 ⟨21, 4, 21, 8⟩ (.call (.glob 1 ⟨21, 11, 21, 17⟩) (.cons (.loc 0 ⟨21, 18, 21, 22⟩) (.cons (.loc 1 ⟨21, 24, 21, 32⟩) .nil)) ⟨21, 11, 21, 33⟩) ⟨21, 4, 21, 33⟩)
 (.cons (.ite (.cmp .In (.cst (.str "\"") ⟨22, 7, 22, 10⟩) (.loc 0 ⟨22, 14, 22, 18⟩) ⟨22, 7, 22, 18⟩)
 (.cons (.ite (.cmp .In (.cst (.str "'") ⟨23, 11, 23, 14⟩) (.loc 0 ⟨23, 18, 23, 22⟩) ⟨23, 11, 23, 22⟩)
 (.cons (.asg 0 ⟨24, 12, 24, 16⟩ (.bin .Mod (.cst (.str "\"%s\"") ⟨24, 19, 24, 25⟩) (.meth .replace (.loc 0 ⟨24, 28, 24, 32⟩) ⟨24, 28, 24, 40⟩ (.cons (.cst (.str "\"") ⟨24, 41, 24, 44⟩) (.cons (.cst (.str "&quot;") ⟨24, 46, 24, 54⟩) .nil)) ⟨24, 28, 24, 55⟩) ⟨24, 19, 24, 55⟩) ⟨24, 12, 24, 55⟩)
 .nil)
 (.cons (.asg 0 ⟨26, 12, 26, 16⟩ (.bin .Mod (.cst (.str "'%s'") ⟨26, 19, 26, 25⟩) (.loc 0 ⟨26, 28, 26, 32⟩) ⟨26, 19, 26, 32⟩) ⟨26, 12, 26, 32⟩)
 .nil) ⟨23, 8, 26, 32⟩)
 .nil)
 (.cons (.asg 0 ⟨28, 8, 28, 12⟩ (.bin .Mod (.cst (.str "\"%s\"") ⟨28, 15, 28, 21⟩) (.loc 0 ⟨28, 24, 28, 28⟩) ⟨28, 15, 28, 28⟩) ⟨28, 8, 28, 28⟩)
 .nil) ⟨22, 4, 28, 28⟩)
 (.cons (.ret (.loc 0 ⟨29, 11, 29, 15⟩) ⟨29, 4, 29, 15⟩)
 .nil))))
noncomputable def nm_law_sign : Nm := ⟨[Str.ofString "number"], fnames⟩
noncomputable def b_law_sign : MSs :=
 (.cons (.ret (.idx (.list (.cons (.cst (.str "&") ⟨32, 12, 32, 15⟩) (.cons (.cst (.str "<") ⟨32, 17, 32, 20⟩) (.cons (.cst (.str ">") ⟨32, 22, 32, 25⟩) (.cons (.cst (.str "a") ⟨32, 27, 32, 30⟩) (.cons (.cst (.str "m") ⟨32, 32, 32, 35⟩) (.cons (.cst (.str "p") ⟨32, 37, 32, 40⟩) (.cons (.cst (.str ";") ⟨32, 42, 32, 45⟩) (.cons (.cst (.str "\"") ⟨32, 47, 32, 50⟩) (.cons (.cst (.str "'") ⟨32, 52, 32, 55⟩) (.cons (.cst (.str "\n") ⟨32, 57, 32, 61⟩) (.cons (.cst (.str "l") ⟨32, 63, 32, 66⟩) (.cons (.cst (.str "t") ⟨32, 68, 32, 71⟩) (.cons (.cst (.str "#") ⟨32, 73, 32, 76⟩) (.cons (.cst (.str "1") ⟨32, 78, 32, 81⟩) (.cons (.cst (.str "0") ⟨32, 83, 32, 86⟩) (.cons (.cst (.str "\t") ⟨32, 88, 32, 92⟩) (.cons (.cst (.str "g") ⟨32, 94, 32, 97⟩) (.cons (.cst (.str "\r") ⟨32, 99, 32, 103⟩) (.cons (.cst (.str "q") ⟨32, 105, 32, 108⟩) .nil))))))))))))))))))) ⟨32, 11, 32, 109⟩) (.bin .Mod (.loc 0 ⟨32, 110, 32, 116⟩) (.cst (.int 19) ⟨32, 119, 32, 121⟩) ⟨32, 110, 32, 121⟩) ⟨32, 11, 32, 122⟩) ⟨32, 4, 32, 122⟩)
 .nil)
noncomputable def nm_law_ends : Nm := ⟨[Str.ofString "text", Str.ofString "sizes", Str.ofString "found", Str.ofString "sign"], fnames⟩
noncomputable def b_law_ends : MSs :=
 (.cons (.asg 2 ⟨34, 4, 34, 9⟩ (.list (.cons (.cst (.int 0) ⟨34, 13, 34, 14⟩) .nil) ⟨34, 12, 34, 15⟩) ⟨34, 4, 34, 15⟩)
 (.cons (.for1 3 ⟨35, 8, 35, 12⟩ (.loc 0 ⟨35, 16, 35, 20⟩)
 (.cons (.app (.loc 2 ⟨36, 8, 36, 13⟩) (.bin .Add (.idx (.loc 2 ⟨36, 21, 36, 26⟩) (.neg (.cst (.int 1) ⟨36, 28, 36, 29⟩) ⟨36, 27, 36, 29⟩) ⟨36, 21, 36, 30⟩) (.meth .get (.loc 1 ⟨36, 33, 36, 38⟩) ⟨36, 33, 36, 42⟩ (.cons (.loc 3 ⟨36, 43, 36, 47⟩) (.cons (.cst (.int 1) ⟨36, 49, 36, 50⟩) .nil)) ⟨36, 33, 36, 51⟩) ⟨36, 21, 36, 51⟩) ⟨36, 8, 36, 20⟩ ⟨36, 8, 36, 52⟩ ⟨36, 8, 36, 52⟩)
 .nil) ⟨35, 4, 36, 52⟩)
 (.cons (.ret (.loc 2 ⟨37, 11, 37, 16⟩) ⟨37, 4, 37, 16⟩)
 .nil)))
noncomputable def nm_law_slices : Nm := ⟨[Str.ofString "text", Str.ofString "written", Str.ofString "ends", Str.ofString "names", Str.ofString "script", Str.ofString "firsts", Str.ofString "k", Str.ofString "first", Str.ofString "a", Str.ofString "step", Str.ofString "last", Str.ofString "b", Str.ofString "due", Str.ofString "x", Str.ofString "end"], fnames⟩
noncomputable def b_law_slices : MSs :=
 (.cons (.ite (.cmp .NotEq (.bcall .len ⟨39, 7, 39, 10⟩ (.cons (.loc 1 ⟨39, 11, 39, 18⟩) .nil) ⟨39, 7, 39, 19⟩) (.idx (.loc 2 ⟨39, 23, 39, 27⟩) (.neg (.cst (.int 1) ⟨39, 29, 39, 30⟩) ⟨39, 28, 39, 30⟩) ⟨39, 23, 39, 31⟩) ⟨39, 7, 39, 31⟩)
 (.cons (.ret (.cst (.bool false) ⟨40, 15, 40, 20⟩) ⟨40, 8, 40, 20⟩)
 .nil)
 .nil ⟨39, 4, 40, 20⟩)
 (.cons (.asg 5 ⟨41, 4, 41, 10⟩ (.lrange ⟨41, 13, 41, 17⟩ ⟨41, 18, 41, 23⟩ (.bin .Add (.bcall .len ⟨41, 24, 41, 27⟩ (.cons (.loc 1 ⟨41, 28, 41, 35⟩) .nil) ⟨41, 24, 41, 36⟩) (.cst (.int 1) ⟨41, 39, 41, 40⟩) ⟨41, 24, 41, 40⟩) ⟨41, 18, 41, 41⟩ ⟨41, 13, 41, 42⟩) ⟨41, 4, 41, 42⟩)
 (.cons (.ite (.cmp .Gt (.bcall .len ⟨42, 7, 42, 10⟩ (.cons (.loc 1 ⟨42, 11, 42, 18⟩) .nil) ⟨42, 7, 42, 19⟩) (.cst (.int 30) ⟨42, 22, 42, 24⟩) ⟨42, 7, 42, 24⟩)
 (.cons (.asgc 5 ⟨43, 8, 43, 14⟩ (.comp (.bin .Mod (.bin .FloorDiv (.bcall .abs ⟨43, 18, 43, 21⟩ (.cons (.loc 13 ⟨43, 22, 43, 23⟩) .nil) ⟨43, 18, 43, 24⟩) (.cst (.int 19) ⟨43, 28, 43, 30⟩) ⟨43, 18, 43, 30⟩) (.bin .Add (.bcall .len ⟨43, 34, 43, 37⟩ (.cons (.loc 1 ⟨43, 38, 43, 45⟩) .nil) ⟨43, 34, 43, 46⟩) (.cst (.int 1) ⟨43, 49, 43, 50⟩) ⟨43, 34, 43, 50⟩) ⟨43, 18, 43, 51⟩) 13 ⟨43, 56, 43, 57⟩ (.loc 4 ⟨43, 61, 43, 67⟩) .no (scp [(".0", .local), ("x", .local), ("abs", .globalImplicit), ("len", .globalImplicit), ("written", .free)]) ⟨43, 17, 43, 68⟩) ⟨43, 8, 43, 68⟩)
 .nil)
 .nil ⟨42, 4, 43, 68⟩)
 (.cons (.for1 6 ⟨44, 8, 44, 9⟩ (.bcall .range ⟨44, 13, 44, 18⟩ (.cons (.bcall .len ⟨44, 19, 44, 22⟩ (.cons (.loc 5 ⟨44, 23, 44, 29⟩) .nil) ⟨44, 19, 44, 30⟩) .nil) ⟨44, 13, 44, 31⟩)
 (.cons (.asg 7 ⟨45, 8, 45, 13⟩ (.idx (.loc 5 ⟨45, 16, 45, 22⟩) (.loc 6 ⟨45, 23, 45, 24⟩) ⟨45, 16, 45, 25⟩) ⟨45, 8, 45, 25⟩)
 (.cons (.asg 8 ⟨46, 8, 46, 9⟩ (.bcall .len ⟨46, 12, 46, 15⟩ (.cons (.comp (.loc 14 ⟨46, 17, 46, 20⟩) 14 ⟨46, 25, 46, 28⟩ (.loc 2 ⟨46, 32, 46, 36⟩) (.yes (.cmp .Lt (.loc 14 ⟨46, 40, 46, 43⟩) (.loc 7 ⟨46, 46, 46, 51⟩) ⟨46, 40, 46, 51⟩)) (scp [(".0", .local), ("end", .local), ("first", .free)]) ⟨46, 16, 46, 52⟩) .nil) ⟨46, 12, 46, 53⟩) ⟨46, 8, 46, 53⟩)
 (.cons (.for1 9 ⟨47, 12, 47, 16⟩ (.list (.cons (.bin .Mod (.bcall .abs ⟨47, 21, 47, 24⟩ (.cons (.idx (.loc 4 ⟨47, 25, 47, 31⟩) (.bin .Mod (.loc 6 ⟨47, 32, 47, 33⟩) (.bcall .len ⟨47, 36, 47, 39⟩ (.cons (.loc 4 ⟨47, 40, 47, 46⟩) .nil) ⟨47, 36, 47, 47⟩) ⟨47, 32, 47, 47⟩) ⟨47, 25, 47, 48⟩) .nil) ⟨47, 21, 47, 49⟩) (.cst (.int 13) ⟨47, 52, 47, 54⟩) ⟨47, 21, 47, 54⟩) (.cons (.bcall .len ⟨47, 56, 47, 59⟩ (.cons (.loc 1 ⟨47, 60, 47, 67⟩) .nil) ⟨47, 56, 47, 68⟩) .nil)) ⟨47, 20, 47, 69⟩)
 (.cons (.asg 10 ⟨48, 12, 48, 16⟩ (.bcall .min ⟨48, 19, 48, 22⟩ (.cons (.bcall .len ⟨48, 23, 48, 26⟩ (.cons (.loc 1 ⟨48, 27, 48, 34⟩) .nil) ⟨48, 23, 48, 35⟩) (.cons (.bin .Add (.loc 7 ⟨48, 37, 48, 42⟩) (.loc 9 ⟨48, 45, 48, 49⟩) ⟨48, 37, 48, 49⟩) .nil)) ⟨48, 19, 48, 50⟩) ⟨48, 12, 48, 50⟩)
 (.cons (.asg 11 ⟨49, 12, 49, 13⟩ (.bin .Sub (.bcall .len ⟨49, 16, 49, 19⟩ (.cons (.comp (.loc 14 ⟨49, 21, 49, 24⟩) 14 ⟨49, 29, 49, 32⟩ (.loc 2 ⟨49, 36, 49, 40⟩) (.yes (.cmp .LtE (.loc 14 ⟨49, 44, 49, 47⟩) (.loc 10 ⟨49, 51, 49, 55⟩) ⟨49, 44, 49, 55⟩)) (scp [(".0", .local), ("end", .local), ("last", .free)]) ⟨49, 20, 49, 56⟩) .nil) ⟨49, 16, 49, 57⟩) (.cst (.int 1) ⟨49, 60, 49, 61⟩) ⟨49, 16, 49, 61⟩) ⟨49, 12, 49, 61⟩)
 (.cons (.asg 12 ⟨50, 12, 50, 15⟩ (.slice (.loc 1 ⟨50, 18, 50, 25⟩) (.yes (.loc 7 ⟨50, 26, 50, 31⟩)) (.yes (.loc 10 ⟨50, 32, 50, 36⟩)) ⟨50, 26, 50, 36⟩ ⟨50, 18, 50, 37⟩) ⟨50, 12, 50, 37⟩)
 (.cons (.ite (.cmp .LtE (.loc 8 ⟨51, 15, 51, 16⟩) (.loc 11 ⟨51, 20, 51, 21⟩) ⟨51, 15, 51, 21⟩)
 (.cons (.asg 12 ⟨52, 16, 52, 19⟩ (.bin .Add (.bin .Add (.slice (.loc 1 ⟨52, 22, 52, 29⟩) (.yes (.loc 7 ⟨52, 30, 52, 35⟩)) (.yes (.idx (.loc 2 ⟨52, 36, 52, 40⟩) (.loc 8 ⟨52, 41, 52, 42⟩) ⟨52, 36, 52, 43⟩)) ⟨52, 30, 52, 43⟩ ⟨52, 22, 52, 44⟩) (.slice (.loc 0 ⟨52, 47, 52, 51⟩) (.yes (.loc 8 ⟨52, 52, 52, 53⟩)) (.yes (.loc 11 ⟨52, 54, 52, 55⟩)) ⟨52, 52, 52, 55⟩ ⟨52, 47, 52, 56⟩) ⟨52, 22, 52, 56⟩) (.slice (.loc 1 ⟨52, 59, 52, 66⟩) (.yes (.idx (.loc 2 ⟨52, 67, 52, 71⟩) (.loc 11 ⟨52, 72, 52, 73⟩) ⟨52, 67, 52, 74⟩)) (.yes (.loc 10 ⟨52, 75, 52, 79⟩)) ⟨52, 67, 52, 79⟩ ⟨52, 59, 52, 80⟩) ⟨52, 22, 52, 80⟩) ⟨52, 16, 52, 80⟩)
 .nil)
 .nil ⟨51, 12, 52, 80⟩)
 (.cons (.ite (.cmp .NotEq (.call (.glob 2 ⟨53, 15, 53, 23⟩) (.cons (.slice (.loc 1 ⟨53, 24, 53, 31⟩) (.yes (.loc 7 ⟨53, 32, 53, 37⟩)) (.yes (.loc 10 ⟨53, 38, 53, 42⟩)) ⟨53, 32, 53, 42⟩ ⟨53, 24, 53, 43⟩) (.cons (.loc 3 ⟨53, 45, 53, 50⟩) .nil)) ⟨53, 15, 53, 51⟩) (.loc 12 ⟨53, 55, 53, 58⟩) ⟨53, 15, 53, 58⟩)
 (.cons (.ret (.cst (.bool false) ⟨54, 23, 54, 28⟩) ⟨54, 16, 54, 28⟩)
 .nil)
 .nil ⟨53, 12, 54, 28⟩)
 .nil))))) ⟨47, 8, 54, 28⟩)
 .nil))) ⟨44, 4, 54, 28⟩)
 (.cons (.ret (.cst (.bool true) ⟨55, 11, 55, 15⟩) ⟨55, 4, 55, 15⟩)
 .nil)))))
noncomputable def nm_law : Nm := ⟨[Str.ofString "script", Str.ofString "text", Str.ofString "sizes", Str.ofString "names", Str.ofString "table", Str.ofString "written", Str.ofString "k", Str.ofString "quoted", Str.ofString "mark", Str.ofString "x"], fnames⟩
noncomputable def b_law : MSs :=
 (.cons (.asg 1 ⟨57, 4, 57, 8⟩ (.meth .join (.cst (.str "") ⟨57, 11, 57, 13⟩) ⟨57, 11, 57, 18⟩ (.cons (.comp (.call (.glob 4 ⟨57, 20, 57, 29⟩) (.cons (.bcall .abs ⟨57, 30, 57, 33⟩ (.cons (.loc 9 ⟨57, 34, 57, 35⟩) .nil) ⟨57, 30, 57, 36⟩) .nil) ⟨57, 20, 57, 37⟩) 9 ⟨57, 42, 57, 43⟩ (.slice (.loc 0 ⟨57, 47, 57, 53⟩) .no (.yes (.cst (.int 16) ⟨57, 55, 57, 57⟩)) ⟨57, 54, 57, 57⟩ ⟨57, 47, 57, 58⟩) .no (scp [(".0", .local), ("x", .local), ("_law_sign", .globalImplicit), ("abs", .globalImplicit)]) ⟨57, 19, 57, 59⟩) .nil) ⟨57, 11, 57, 60⟩) ⟨57, 4, 57, 60⟩)
 (.cons (.ite (.isNil (.loc 0 ⟨58, 7, 58, 13⟩) ⟨58, 17, 58, 19⟩ ⟨58, 7, 58, 19⟩)
 (.cons (.ret (.and3 (.cmp .Eq (.call (.glob 1 ⟨59, 15, 59, 21⟩) (.cons (.loc 1 ⟨59, 22, 59, 26⟩) .nil) ⟨59, 15, 59, 27⟩) (.cst (.str "") ⟨59, 31, 59, 33⟩) ⟨59, 15, 59, 33⟩) (.cmp .Eq (.call (.glob 3 ⟨59, 38, 59, 47⟩) (.cons (.loc 1 ⟨59, 48, 59, 52⟩) .nil) ⟨59, 38, 59, 53⟩) (.cst (.str "\"\"") ⟨59, 57, 59, 61⟩) ⟨59, 38, 59, 61⟩) (.cmp .Eq (.call (.glob 2 ⟨59, 67, 59, 75⟩) (.cons (.loc 1 ⟨59, 76, 59, 80⟩) .nil) ⟨59, 67, 59, 81⟩) (.cst (.str "") ⟨59, 85, 59, 87⟩) ⟨59, 67, 59, 87⟩) ⟨59, 15, 59, 88⟩) ⟨59, 8, 59, 88⟩)
 .nil)
 .nil ⟨58, 4, 59, 88⟩)
 (.cons (.asg2 2 3 ⟨60, 4, 60, 9⟩ ⟨60, 11, 60, 16⟩ ⟨60, 4, 60, 16⟩ (.dict .no (.cons (.cst (.str "&") ⟨60, 21, 60, 24⟩) (.cons (.cst (.str "<") ⟨60, 29, 60, 32⟩) (.cons (.cst (.str ">") ⟨60, 37, 60, 40⟩) .nil))) (.cons (.cst (.int 5) ⟨60, 26, 60, 27⟩) (.cons (.cst (.int 4) ⟨60, 34, 60, 35⟩) (.cons (.cst (.int 4) ⟨60, 42, 60, 43⟩) .nil))) ⟨60, 20, 60, 44⟩) (.dict .no .nil .nil ⟨60, 46, 60, 48⟩) ⟨60, 19, 60, 49⟩ ⟨60, 4, 60, 49⟩)
 (.cons (.asg 4 ⟨61, 4, 61, 9⟩ (.dict .no .nil .nil ⟨61, 12, 61, 14⟩) ⟨61, 4, 61, 14⟩)
 (.cons (.ite (.cmp .Eq (.bin .Mod (.bcall .len ⟨62, 7, 62, 10⟩ (.cons (.loc 0 ⟨62, 11, 62, 17⟩) .nil) ⟨62, 7, 62, 18⟩) (.cst (.int 2) ⟨62, 21, 62, 22⟩) ⟨62, 7, 62, 22⟩) (.cst (.int 1) ⟨62, 26, 62, 27⟩) ⟨62, 7, 62, 27⟩)
 (.cons (.sets (.loc 2 ⟨63, 8, 63, 13⟩) (.cst (.str "\"") ⟨63, 14, 63, 17⟩) ⟨63, 8, 63, 18⟩ (.cst (.int 6) ⟨63, 21, 63, 22⟩) ⟨63, 8, 63, 22⟩)
 (.cons (.sets (.loc 3 ⟨64, 8, 64, 13⟩) (.cst (.str "&quot;") ⟨64, 14, 64, 22⟩) ⟨64, 8, 64, 23⟩ (.cst (.str "\"") ⟨64, 26, 64, 29⟩) ⟨64, 8, 64, 29⟩)
 (.cons (.sets (.loc 4 ⟨65, 8, 65, 13⟩) (.cst (.str "\"") ⟨65, 14, 65, 17⟩) ⟨65, 8, 65, 18⟩ (.cst (.str "&quot;") ⟨65, 21, 65, 29⟩) ⟨65, 8, 65, 29⟩)
 .nil)))
 .nil ⟨62, 4, 65, 29⟩)
 (.cons (.asg 5 ⟨66, 4, 66, 11⟩ (.call (.glob 1 ⟨66, 14, 66, 20⟩) (.cons (.loc 1 ⟨66, 21, 66, 25⟩) (.cons (.loc 4 ⟨66, 27, 66, 32⟩) .nil)) ⟨66, 14, 66, 33⟩) ⟨66, 4, 66, 33⟩)
 (.cons (.ite (.not (.call (.glob 6 ⟨67, 11, 67, 22⟩) (.cons (.loc 1 ⟨67, 23, 67, 27⟩) (.cons (.loc 5 ⟨67, 29, 67, 36⟩) (.cons (.call (.glob 5 ⟨67, 38, 67, 47⟩) (.cons (.loc 1 ⟨67, 48, 67, 52⟩) (.cons (.loc 2 ⟨67, 54, 67, 59⟩) .nil)) ⟨67, 38, 67, 60⟩) (.cons (.loc 3 ⟨67, 62, 67, 67⟩) (.cons (.loc 0 ⟨67, 69, 67, 75⟩) .nil))))) ⟨67, 11, 67, 76⟩) ⟨67, 7, 67, 76⟩)
 (.cons (.ret (.cst (.bool false) ⟨68, 15, 68, 20⟩) ⟨68, 8, 68, 20⟩)
 .nil)
 .nil ⟨67, 4, 68, 20⟩)
 (.cons (.for1 6 ⟨69, 8, 69, 9⟩ (.bcall .range ⟨69, 13, 69, 18⟩ (.cons (.bcall .len ⟨69, 19, 69, 22⟩ (.cons (.loc 1 ⟨69, 23, 69, 27⟩) .nil) ⟨69, 19, 69, 28⟩) .nil) ⟨69, 13, 69, 29⟩)
 (.cons (.ite (.cmp .NotEq (.bin .Add (.call (.glob 1 ⟨70, 11, 70, 17⟩) (.cons (.slice (.loc 1 ⟨70, 18, 70, 22⟩) .no (.yes (.loc 6 ⟨70, 24, 70, 25⟩)) ⟨70, 23, 70, 25⟩ ⟨70, 18, 70, 26⟩) (.cons (.loc 4 ⟨70, 28, 70, 33⟩) .nil)) ⟨70, 11, 70, 34⟩) (.call (.glob 1 ⟨70, 37, 70, 43⟩) (.cons (.slice (.loc 1 ⟨70, 44, 70, 48⟩) (.yes (.loc 6 ⟨70, 49, 70, 50⟩)) .no ⟨70, 49, 70, 51⟩ ⟨70, 44, 70, 52⟩) (.cons (.loc 4 ⟨70, 54, 70, 59⟩) .nil)) ⟨70, 37, 70, 60⟩) ⟨70, 11, 70, 60⟩) (.loc 5 ⟨70, 64, 70, 71⟩) ⟨70, 11, 70, 71⟩)
 (.cons (.ret (.cst (.bool false) ⟨71, 19, 71, 24⟩) ⟨71, 12, 71, 24⟩)
 .nil)
 .nil ⟨70, 8, 71, 24⟩)
 .nil) ⟨69, 4, 71, 24⟩)
 (.cons (.asg 2 ⟨72, 4, 72, 9⟩ (.dict .no (.cons (.cst (.str "&") ⟨72, 13, 72, 16⟩) (.cons (.cst (.str "<") ⟨72, 21, 72, 24⟩) (.cons (.cst (.str ">") ⟨72, 29, 72, 32⟩) (.cons (.cst (.str "\n") ⟨72, 37, 72, 41⟩) (.cons (.cst (.str "\r") ⟨72, 46, 72, 50⟩) (.cons (.cst (.str "\t") ⟨72, 55, 72, 59⟩) .nil)))))) (.cons (.cst (.int 5) ⟨72, 18, 72, 19⟩) (.cons (.cst (.int 4) ⟨72, 26, 72, 27⟩) (.cons (.cst (.int 4) ⟨72, 34, 72, 35⟩) (.cons (.cst (.int 5) ⟨72, 43, 72, 44⟩) (.cons (.cst (.int 5) ⟨72, 52, 72, 53⟩) (.cons (.cst (.int 4) ⟨72, 61, 72, 62⟩) .nil)))))) ⟨72, 12, 72, 63⟩) ⟨72, 4, 72, 63⟩)
 (.cons (.asg 3 ⟨73, 4, 73, 9⟩ (.dict .no (.cons (.cst (.str "&#10;") ⟨73, 13, 73, 20⟩) (.cons (.cst (.str "&#13;") ⟨73, 28, 73, 35⟩) (.cons (.cst (.str "&#9;") ⟨73, 43, 73, 49⟩) .nil))) (.cons (.cst (.str "\n") ⟨73, 22, 73, 26⟩) (.cons (.cst (.str "\r") ⟨73, 37, 73, 41⟩) (.cons (.cst (.str "\t") ⟨73, 51, 73, 55⟩) .nil))) ⟨73, 12, 73, 56⟩) ⟨73, 4, 73, 56⟩)
 (.cons (.asg 7 ⟨74, 4, 74, 10⟩ (.call (.glob 3 ⟨74, 13, 74, 22⟩) (.cons (.loc 1 ⟨74, 23, 74, 27⟩) .nil) ⟨74, 13, 74, 28⟩) ⟨74, 4, 74, 28⟩)
 (.cons (.ite (.and2 (.cmp .In (.cst (.str "\"") ⟨75, 7, 75, 10⟩) (.loc 1 ⟨75, 14, 75, 18⟩) ⟨75, 7, 75, 18⟩) (.cmp .In (.cst (.str "'") ⟨75, 23, 75, 26⟩) (.loc 1 ⟨75, 30, 75, 34⟩) ⟨75, 23, 75, 34⟩) ⟨75, 7, 75, 34⟩)
 (.cons (.sets (.loc 2 ⟨76, 8, 76, 13⟩) (.cst (.str "\"") ⟨76, 14, 76, 17⟩) ⟨76, 8, 76, 18⟩ (.cst (.int 6) ⟨76, 21, 76, 22⟩) ⟨76, 8, 76, 22⟩)
 (.cons (.sets (.loc 3 ⟨77, 8, 77, 13⟩) (.cst (.str "&quot;") ⟨77, 14, 77, 22⟩) ⟨77, 8, 77, 23⟩ (.cst (.str "\"") ⟨77, 26, 77, 29⟩) ⟨77, 8, 77, 29⟩)
 .nil))
 .nil ⟨75, 4, 77, 29⟩)
 (.cons (.asg 8 ⟨78, 4, 78, 8⟩ (.ite (.and2 (.cmp .In (.cst (.str "\"") ⟨78, 18, 78, 21⟩) (.loc 1 ⟨78, 25, 78, 29⟩) ⟨78, 18, 78, 29⟩) (.cmp .NotIn (.cst (.str "'") ⟨78, 34, 78, 37⟩) (.loc 1 ⟨78, 45, 78, 49⟩) ⟨78, 34, 78, 49⟩) ⟨78, 18, 78, 49⟩) (.cst (.str "'") ⟨78, 11, 78, 14⟩) (.cst (.str "\"") ⟨78, 55, 78, 58⟩) ⟨78, 11, 78, 58⟩) ⟨78, 4, 78, 58⟩)
 (.cons (.ite (.or2 (.cmp .NotEq (.idx (.loc 7 ⟨79, 7, 79, 13⟩) (.cst (.int 0) ⟨79, 14, 79, 15⟩) ⟨79, 7, 79, 16⟩) (.loc 8 ⟨79, 20, 79, 24⟩) ⟨79, 7, 79, 24⟩) (.cmp .NotEq (.idx (.loc 7 ⟨79, 28, 79, 34⟩) (.neg (.cst (.int 1) ⟨79, 36, 79, 37⟩) ⟨79, 35, 79, 37⟩) ⟨79, 28, 79, 38⟩) (.loc 8 ⟨79, 42, 79, 46⟩) ⟨79, 28, 79, 46⟩) ⟨79, 7, 79, 46⟩)
 (.cons (.ret (.cst (.bool false) ⟨80, 15, 80, 20⟩) ⟨80, 8, 80, 20⟩)
 .nil)
 .nil ⟨79, 4, 80, 20⟩)
 (.cons (.ret (.call (.glob 6 ⟨81, 11, 81, 22⟩) (.cons (.loc 1 ⟨81, 23, 81, 27⟩) (.cons (.slice (.loc 7 ⟨81, 29, 81, 35⟩) (.yes (.cst (.int 1) ⟨81, 36, 81, 37⟩)) (.yes (.neg (.cst (.int 1) ⟨81, 39, 81, 40⟩) ⟨81, 38, 81, 40⟩)) ⟨81, 36, 81, 40⟩ ⟨81, 29, 81, 41⟩) (.cons (.call (.glob 5 ⟨81, 43, 81, 52⟩) (.cons (.loc 1 ⟨81, 53, 81, 57⟩) (.cons (.loc 2 ⟨81, 59, 81, 64⟩) .nil)) ⟨81, 43, 81, 65⟩) (.cons (.loc 3 ⟨81, 67, 81, 72⟩) (.cons (.loc 0 ⟨81, 74, 81, 80⟩) .nil))))) ⟨81, 11, 81, 81⟩) ⟨81, 4, 81, 81⟩)
 .nil)))))))))))))))
noncomputable def funs : List Fn := [⟨2, 4, b_dict_replace_saxutils, .none⟩,
  ⟨2, 2, b_escape, (some 1)⟩,
  ⟨2, 2, b_unescape, (some 2)⟩,
  ⟨2, 2, b_quoteattr, (some 3)⟩,
  ⟨1, 1, b_law_sign, .none⟩,
  ⟨2, 4, b_law_ends, .none⟩,
  ⟨5, 15, b_law_slices, .none⟩,
  ⟨1, 10, b_law, .none⟩]
end Mine

end

section
open PySem
namespace Mine

/-! running the small machine: enough fuel is taken for granted -/
section
variable {X : Hp} {d : Nat} {m m1 m2 : M} {h h1 h2 h3 : Hp} {v u w : V} {e l r : ME} {p : Pos}
noncomputable def Ev (X : Hp) (d : Nat) (e : ME) (m : M) (h : Hp) (v : V) (h' : Hp) : Prop := ∃ N, ∀ n, N ≤ n → (Mi funs X n d).ev e m h = some (v, h')
noncomputable def Evs (X : Hp) (d : Nat) (es : MEs) (m : M) (h : Hp) (vs : List V) (h' : Hp) : Prop := ∃ N, ∀ n, N ≤ n → evs (Mi funs X n d) es m h = some (vs, h')
noncomputable def EvO (X : Hp) (d : Nat) (e : MO) (m : M) (h : Hp) (v : Option Int) (h' : Hp) : Prop := ∃ N, ∀ n, N ≤ n → evO (Mi funs X n d) e m h = some (v, h')
noncomputable def Ex (X : Hp) (d : Nat) (b : MSs) (m : M) (h : Hp) (f : Fl) (m' : M) (h' : Hp) : Prop := ∃ N, ∀ n, N ≤ n → (Mi funs X n d).ex b m h = some (f, m', h')
noncomputable def Sx (X : Hp) (d : Nat) (b : MS) (m : M) (h : Hp) (f : Fl) (m' : M) (h' : Hp) : Prop := ∃ N, ∀ n, N ≤ n → stepS X (Mi funs X n d) b m h = some (f, m', h')
noncomputable def Cl (X : Hp) (d : Nat) (g : Nat) (vs : List V) (h : Hp) (v : V) (h' : Hp) : Prop := ∃ N, ∀ n, N ≤ n → (Mi funs X n d).cl g vs h = some (v, h')
noncomputable def For (X : Hp) (d : Nat) (chk : Hp → Bool) (st : V → M → Hp → Option M) (b : MSs) (vs : List V) (m : M) (h : Hp) (f : Fl) (m' : M) (h' : Hp) : Prop := ∃ N, ∀ n, N ≤ n → mfor (Mi funs X n d) chk st b vs m h = some (f, m', h')
noncomputable def Cm (X : Hp) (d : Nat) (chk : Hp → Bool) (elt : ME) (x : Nat) (t : MO) (vs : List V) (m : M) (h : Hp) (ys : List V) (h' : Hp) : Prop := ∃ N, ∀ n, N ≤ n → mcomp X (Mi funs X n d) chk elt x t vs m h = some (ys, h')

theorem ev_of (N : Nat) (q : ∀ n, N ≤ n → stepE X (Mi funs X n d) e m h = some (v, h1)) : Ev X d e m h v h1 := ⟨N + 1, fun n hn => by
  obtain ⟨k, rfl⟩ : ∃ k, n = k + 1 := ⟨n - 1, by omega⟩
  exact q k (by omega)⟩
theorem ev_same (q : Ev X d e m h u h1) (hv : u = v) : Ev X d e m h v h1 := hv ▸ q
theorem e_loc {i : Nat} (q : m.getD i .none = some v) : Ev X d (.loc i p) m h v h := ev_of 0 fun n _ => by rw [stepE, q]; rfl
theorem e_glob {g : Nat} : Ev X d (.glob g p) m h (.fn g) h := ev_of 0 fun n _ => rfl
theorem e_cst {c : C0} : Ev X d (.cst c p) m h c.val h := ev_of 0 fun n _ => rfl
theorem e_bin {op : Operator} (a : Ev X d l m h u h1) (b : Ev X d r m h1 w h2) (q : binop op u w = some v) : Ev X d (.bin op l r p) m h v h2 := by
  obtain ⟨A, a⟩ := a; obtain ⟨B, b⟩ := b
  exact ev_of (A + B) fun n hn => by simp only [stepE, a n (by omega), b n (by omega), q, Option.bind_some, Option.map_some, if_true, if_false, Bool.false_eq_true]
theorem e_cmp {op : CmpOp} {c : Bool} (a : Ev X d l m h u h1) (b : Ev X d r m h1 w h2) (q : cmpop op u w = some c) : Ev X d (.cmp op l r p) m h (.bool c) h2 := by
  obtain ⟨A, a⟩ := a; obtain ⟨B, b⟩ := b
  exact ev_of (A + B) fun n hn => by simp only [stepE, a n (by omega), b n (by omega), q, Option.bind_some, Option.map_some, if_true, if_false, Bool.false_eq_true]
theorem e_and_t (a : Ev X d l m h u h1) (ht : truth X h1 u = some true) (b : Ev X d r m h1 w h2) : Ev X d (.and2 l r p) m h w h2 := by
  obtain ⟨A, a⟩ := a; obtain ⟨B, b⟩ := b
  exact ev_of (A + B) fun n hn => by simp only [stepE, a n (by omega), ht, b n (by omega), Option.bind_some, Option.map_some, if_true, if_false, Bool.false_eq_true]
theorem e_and_f (a : Ev X d l m h u h1) (ht : truth X h1 u = some false) : Ev X d (.and2 l r p) m h u h1 := by
  obtain ⟨A, a⟩ := a
  exact ev_of A fun n hn => by simp only [stepE, a n (by omega), ht, Option.bind_some, Option.map_some, if_true, if_false, Bool.false_eq_true]
theorem e_or_f (a : Ev X d l m h u h1) (ht : truth X h1 u = some false) (b : Ev X d r m h1 w h2) : Ev X d (.or2 l r p) m h w h2 := by
  obtain ⟨A, a⟩ := a; obtain ⟨B, b⟩ := b
  exact ev_of (A + B) fun n hn => by simp only [stepE, a n (by omega), ht, b n (by omega), Option.bind_some, Option.map_some, if_true, if_false, Bool.false_eq_true]
theorem e_or_t (a : Ev X d l m h u h1) (ht : truth X h1 u = some true) : Ev X d (.or2 l r p) m h u h1 := by
  obtain ⟨A, a⟩ := a
  exact ev_of A fun n hn => by simp only [stepE, a n (by omega), ht, Option.bind_some, Option.map_some, if_true, if_false, Bool.false_eq_true]
theorem e_and3 {c : ME} (a : Ev X d l m h u h1) (ht : truth X h1 u = some true) (b : Ev X d c m h1 w h2) (ht2 : truth X h2 w = some true) (g : Ev X d r m h2 v h3) : Ev X d (.and3 l c r p) m h v h3 := by
  obtain ⟨A, a⟩ := a; obtain ⟨B, b⟩ := b; obtain ⟨D, g⟩ := g
  exact ev_of (A + B + D) fun n hn => by simp only [stepE, a n (by omega), ht, b n (by omega), ht2, g n (by omega), Option.bind_some, Option.map_some, if_true, if_false, Bool.false_eq_true]
theorem e_isNil {p1 : Pos} {vs : List V} (a : Ev X d e m h u h1) (q : obj X h1 u = some (.list vs)) : Ev X d (.isNil e p1 p) m h (.bool vs.isEmpty) h1 := by
  obtain ⟨A, a⟩ := a
  exact ev_of A fun n hn => by simp only [stepE, a n (by omega), q, Option.bind_some, Option.map_some, if_true, if_false, Bool.false_eq_true]
theorem e_lrange {p1 p2 p3 : Pos} {k : Int} (a : Ev X d e m h (.int k) h1) (hk : k.natAbs ≤ LIM) : Ev X d (.lrange p1 p2 e p3 p) m h (.ref h1.length) (h1 ++ [.list ((List.range k.toNat).map fun (i : Nat) => V.int (i : Int))]) := by
  obtain ⟨A, a⟩ := a
  exact ev_of A fun n hn => by simp only [stepE, a n (by omega), if_pos hk, Option.bind_some, Option.map_some]
theorem e_not {c : Bool} (a : Ev X d e m h u h1) (ht : truth X h1 u = some c) : Ev X d (.not e p) m h (.bool (!c)) h1 := by
  obtain ⟨A, a⟩ := a
  exact ev_of A fun n hn => by simp only [stepE, a n (by omega), ht, Option.bind_some, Option.map_some, if_true, if_false, Bool.false_eq_true]
theorem e_neg {i : Int} (a : Ev X d e m h (.int i) h1) : Ev X d (.neg e p) m h (.int (-i)) h1 := by
  obtain ⟨A, a⟩ := a
  exact ev_of A fun n hn => by rw [stepE, a n (by omega)]; rfl
theorem e_ite_t {t : ME} (a : Ev X d t m h u h1) (ht : truth X h1 u = some true) (b : Ev X d l m h1 w h2) : Ev X d (.ite t l r p) m h w h2 := by
  obtain ⟨A, a⟩ := a; obtain ⟨B, b⟩ := b
  exact ev_of (A + B) fun n hn => by simp only [stepE, a n (by omega), ht, b n (by omega), Option.bind_some, Option.map_some, if_true, if_false, Bool.false_eq_true]
theorem e_ite_f {t : ME} (a : Ev X d t m h u h1) (ht : truth X h1 u = some false) (b : Ev X d r m h1 w h2) : Ev X d (.ite t l r p) m h w h2 := by
  obtain ⟨A, a⟩ := a; obtain ⟨B, b⟩ := b
  exact ev_of (A + B) fun n hn => by simp only [stepE, a n (by omega), ht, b n (by omega), Option.bind_some, Option.map_some, if_true, if_false, Bool.false_eq_true]
theorem e_idx (a : Ev X d l m h u h1) (b : Ev X d r m h1 w h2) (q : idxv X h2 u w = some v) : Ev X d (.idx l r p) m h v h2 := by
  obtain ⟨A, a⟩ := a; obtain ⟨B, b⟩ := b
  exact ev_of (A + B) fun n hn => by simp only [stepE, a n (by omega), b n (by omega), q, Option.bind_some, Option.map_some, if_true, if_false, Bool.false_eq_true]
theorem o_no : EvO X d .no m h .none h := ⟨0, fun _ _ => rfl⟩
theorem o_yes {i : Int} (a : Ev X d e m h (.int i) h1) : EvO X d (.yes e) m h (some i) h1 := by
  obtain ⟨A, a⟩ := a
  exact ⟨A, fun n hn => by simp only [evO, a n hn, Option.bind_some]⟩
theorem e_slice {lo hi : MO} {x : List Nat} {i j : Option Int} {sp : Pos} (a : Ev X d e m h (.str x) h1) (b : EvO X d lo m h1 i h2) (c : EvO X d hi m h2 j h3) : Ev X d (.slice e lo hi sp p) m h (.str (slc x i j)) h3 := by
  obtain ⟨A, a⟩ := a; obtain ⟨B, b⟩ := b; obtain ⟨D, c⟩ := c
  exact ev_of (A + B + D) fun n hn => by simp only [stepE, a n (by omega), b n (by omega), c n (by omega), Option.bind_some, Option.map_some, if_true, if_false, Bool.false_eq_true]
theorem e_sliceL {lo hi : MO} {k : Nat} {vs : List V} {i j : Option Int} {sp : Pos} (a : Ev X d e m h (.ext k) h1) (b : EvO X d lo m h1 i h2) (c : EvO X d hi m h2 j h3) (q : X[k]? = some (.list vs)) : Ev X d (.slice e lo hi sp p) m h (.ref h3.length) (h3 ++ [.list (slcL vs i j)]) := by
  obtain ⟨A, a⟩ := a; obtain ⟨B, b⟩ := b; obtain ⟨D, c⟩ := c
  refine ev_of (A + B + D) fun n hn => ?_
  simp only [stepE, a n (by omega), b n (by omega), c n (by omega), Option.bind_some]
  show ((X[k]?).bind _) = _
  rw [q]; rfl
theorem a_nil : Evs X d .nil m h [] h := ⟨0, fun _ _ => rfl⟩
theorem a_cons {es : MEs} {vs : List V} (a : Ev X d e m h v h1) (b : Evs X d es m h1 vs h2) : Evs X d (.cons e es) m h (v :: vs) h2 := by
  obtain ⟨A, a⟩ := a; obtain ⟨B, b⟩ := b
  exact ⟨A + B, fun n hn => by simp only [evs, a n (by omega), b n (by omega), Option.bind_some, Option.map_some, if_true, if_false, Bool.false_eq_true]⟩
theorem e_call {g : Nat} {p1 : Pos} {es : MEs} {vs : List V} (a : Evs X d es m h vs h1) (b : Cl X d g vs h1 v h2) : Ev X d (.call (.glob g p1) es p) m h v h2 := by
  obtain ⟨A, a⟩ := a; obtain ⟨B, b⟩ := b
  exact ev_of (A + B + 1) fun n hn => by
    obtain ⟨k, rfl⟩ : ∃ k, n = k + 1 := ⟨n - 1, by omega⟩
    have hg : (Mi funs X (k + 1) d).ev (.glob g p1) m h = some (.fn g, h) := rfl
    simp only [stepE, hg, a (k + 1) (by omega), b (k + 1) (by omega), Option.bind_some]
theorem e_bcall {g : Bi} {p1 : Pos} {es : MEs} {vs : List V} (a : Evs X d es m h vs h1) (q : bcall X g vs h1 = some (v, h2)) : Ev X d (.bcall g p1 es p) m h v h2 := by
  obtain ⟨A, a⟩ := a
  exact ev_of A fun n hn => by rw [stepE, a n (by omega)]; exact q
theorem e_meth {g : Mt} {p1 : Pos} {es : MEs} {vs : List V} (a : Ev X d e m h u h1) (hp : preM X h1 g u = true) (b : Evs X d es m h1 vs h2) (q : meth X g u vs h2 = some (v, h3)) : Ev X d (.meth g e p1 es p) m h v h3 := by
  obtain ⟨A, a⟩ := a; obtain ⟨B, b⟩ := b
  exact ev_of (A + B) fun n hn => by simp only [stepE, a n (by omega), hp, b n (by omega), q, Option.bind_some, Option.map_some, if_true, if_false, Bool.false_eq_true, Bool.true_eq_false]
theorem e_list {es : MEs} {vs : List V} (a : Evs X d es m h vs h1) : Ev X d (.list es p) m h (.ref h1.length) (h1 ++ [.list vs]) := by
  obtain ⟨A, a⟩ := a
  exact ev_of A fun n hn => by rw [stepE, a n (by omega)]; rfl
theorem e_dict {ks vs : MEs} {es : List (List Nat × V)} (q : pairs ks vs = some es) : Ev X d (.dict .no ks vs p) m h (.ref h.length) (h ++ [.dict true es.length es]) :=
  ev_of 0 fun n hn => by rw [stepE, q]; rfl
theorem e_spread {ks vs : MEs} {es more : List (List Nat × V)} {rep : Bool} {ep : Nat} (a : Ev X d e m h u h1) (ho : obj X h1 u = some (.dict rep ep es)) (q : pairs ks vs = some more) (hc : es.length ≤ 1000 ∧ (more.all fun p => (keyIn p.1 es).isNone) = true) : Ev X d (.dict (.yes e) ks vs p) m h (.ref h1.length) (h1 ++ [.dict rep (es.length + more.length) (es ++ more)]) := by
  obtain ⟨A, a⟩ := a
  exact ev_of A fun n hn => by
    simp only [stepE, a n hn, ho, q, if_pos hc, Option.bind_some]
/-! blocks -/
theorem k_nil {chk : Hp → Bool} {elt : ME} {x : Nat} {t : MO} (hc : chk h = true) : Cm X d chk elt x t [] m h [] h := ⟨0, fun n _ => by rw [mcomp, if_pos hc]⟩
theorem k_all {chk : Hp → Bool} {elt : ME} {x : Nat} {us vs : List V} (hc : chk h = true) (a : Ev X d elt (m.set x (some u)) h v h1) (b : Cm X d chk elt x .no us m h1 vs h2) : Cm X d chk elt x .no (u :: us) m h (v :: vs) h2 := by
  obtain ⟨A, a⟩ := a; obtain ⟨B, b⟩ := b
  exact ⟨A + B, fun n hn => by
    rw [mcomp, if_pos hc]
    simp only [mtest, a n (by omega), b n (by omega), Option.bind_some, Option.map_some, if_true]⟩
theorem k_yes {chk : Hp → Bool} {elt t : ME} {x : Nat} {us vs : List V} (hc : chk h = true) (g : Ev X d t (m.set x (some u)) h w h1) (ht : truth X h1 w = some true) (a : Ev X d elt (m.set x (some u)) h1 v h2) (b : Cm X d chk elt x (.yes t) us m h2 vs h3) : Cm X d chk elt x (.yes t) (u :: us) m h (v :: vs) h3 := by
  obtain ⟨A, a⟩ := a; obtain ⟨B, b⟩ := b; obtain ⟨D, g⟩ := g
  exact ⟨A + B + D, fun n hn => by
    rw [mcomp, if_pos hc]
    simp only [mtest, g n (by omega), ht, a n (by omega), b n (by omega), Option.bind_some, Option.map_some, if_true]⟩
theorem k_not {chk : Hp → Bool} {elt t : ME} {x : Nat} {us vs : List V} (hc : chk h = true) (g : Ev X d t (m.set x (some u)) h w h1) (ht : truth X h1 w = some false) (b : Cm X d chk elt x (.yes t) us m h1 vs h3) : Cm X d chk elt x (.yes t) (u :: us) m h vs h3 := by
  obtain ⟨B, b⟩ := b; obtain ⟨D, g⟩ := g
  exact ⟨B + D, fun n hn => by
    rw [mcomp, if_pos hc]
    simp only [mtest, g n (by omega), ht, b n (by omega), Option.bind_some, Option.map_some, if_false, Bool.false_eq_true]⟩
theorem e_comp {elt : ME} {x : Nat} {xp : Pos} {t : MO} {scope : Scope} {us vs : List V} {chk : Hp → Bool} (a : Ev X d e m h u h1) (q : iterV X h1 u = some (us, chk, h2)) (hl : us.length ≤ LIM) (b : Cm X d chk elt x t us m h2 vs h3) : Ev X d (.comp elt x xp e t scope p) m h (.ref h3.length) (h3 ++ [.list vs]) := by
  obtain ⟨A, a⟩ := a; obtain ⟨B, b⟩ := b
  exact ev_of (A + B) fun n hn => by simp only [stepE, a n (by omega), q, if_pos hl, b n (by omega), Option.bind_some, Option.map_some]
theorem it_ref {k : Nat} {vs : List V} (ho : h[k]? = some (.list vs)) : iterV X h (.ref k) = some (vs, (fun h' => decide (h'[k]? = some (.list vs))), h) := by
  show (match h[k]? with | some (O.list vs) => some (vs, (fun (h' : Hp) => decide (h'[k]? = some (O.list vs))), h) | _ => none) = _
  rw [ho]
theorem it_ext {k : Nat} {vs : List V} (ho : X[k]? = some (.list vs)) : iterV X h (.ext k) = some (vs, (fun _ => true), h) := by
  show (match X[k]? with | some (O.list vs) => some (vs, (fun (_ : Hp) => true), h) | _ => none) = _
  rw [ho]

/-! statements -/
variable {s : MS} {b o bs : MSs} {f : Fl}
theorem x_nil : Ex X d .nil m h .next m h := ⟨1, fun n hn => by
  obtain ⟨k, rfl⟩ : ∃ k, n = k + 1 := ⟨n - 1, by omega⟩
  rfl⟩
theorem x_cons (a : Sx X d s m h .next m1 h1) (c : Ex X d b m1 h1 f m2 h2) : Ex X d (.cons s b) m h f m2 h2 := by
  obtain ⟨A, a⟩ := a; obtain ⟨B, c⟩ := c
  exact ⟨A + B + 1, fun n hn => by
    obtain ⟨k, rfl⟩ : ∃ k, n = k + 1 := ⟨n - 1, by omega⟩
    show stepX X (Mi funs X k d) (.cons s b) m h = _
    rw [stepX, a k (by omega)]
    exact c k (by omega)⟩
theorem x_ret (a : Sx X d s m h (.ret v) m1 h1) : Ex X d (.cons s b) m h (.ret v) m1 h1 := by
  obtain ⟨A, a⟩ := a
  exact ⟨A + 1, fun n hn => by
    obtain ⟨k, rfl⟩ : ∃ k, n = k + 1 := ⟨n - 1, by omega⟩
    show stepX X (Mi funs X k d) (.cons s b) m h = _
    rw [stepX, a k (by omega)]; rfl⟩
theorem s_asg {i : Nat} {tp : Pos} (a : Ev X d e m h v h1) : Sx X d (.asg i tp e p) m h .next (m.set i (some v)) h1 := by
  obtain ⟨A, a⟩ := a
  exact ⟨A, fun n hn => by rw [stepS, a n hn]; rfl⟩
theorem s_asgc {i : Nat} {tp : Pos} (a : Ev X d e m h v h1) : Sx X d (.asgc i tp e p) m h .next (m.set i (some v)) h1 := by
  obtain ⟨A, a⟩ := a
  exact ⟨A, fun n hn => by rw [stepS, a n hn]; rfl⟩
theorem s_asg2 {i j : Nat} {p1 p2 p3 p4 : Pos} (a : Ev X d l m h u h1) (c : Ev X d r m h1 w h2) : Sx X d (.asg2 i j p1 p2 p3 l r p4 p) m h .next ((m.set i (some u)).set j (some w)) h2 := by
  obtain ⟨A, a⟩ := a; obtain ⟨B, c⟩ := c
  exact ⟨A + B, fun n hn => by simp only [stepS, a n (by omega), c n (by omega), Option.bind_some, Option.map_some, if_true, if_false, Bool.false_eq_true]⟩
theorem s_sets {tp : Pos} {k : Nat} {s : List Nat} {h4 : Hp} (a : Ev X d e m h v h1) (b : Ev X d l m h1 (.ref k) h2) (c : Ev X d r m h2 (.str s) h3) (q : setD (constSet l r e) h3 k s v = some h4) : Sx X d (.sets l r tp e p) m h .next m h4 := by
  obtain ⟨A, a⟩ := a; obtain ⟨B, b⟩ := b; obtain ⟨D, c⟩ := c
  exact ⟨A + B + D, fun n hn => by
    simp only [stepS, a n (by omega), b n (by omega), c n (by omega), q, Option.bind_some, Option.map_some, if_true, if_false, Bool.false_eq_true]⟩
theorem s_app {p1 p2 : Pos} {k : Nat} {h4 : Hp} (a : Ev X d l m h (.ref k) h1) (q : isL h1 k = true) (b : Ev X d e m h1 v h2) (q2 : appL h2 k v = some h4) : Sx X d (.app l e p1 p2 p) m h .next m h4 := by
  obtain ⟨A, a⟩ := a; obtain ⟨B, b⟩ := b
  exact ⟨A + B, fun n hn => by
    simp only [stepS, a n (by omega), q, b n (by omega), q2, Option.bind_some, Option.map_some, if_true, if_false, Bool.false_eq_true]⟩
theorem s_ite_t {t : ME} (a : Ev X d t m h u h1) (ht : truth X h1 u = some true) (c : Ex X d b m h1 f m2 h2) : Sx X d (.ite t b o p) m h f m2 h2 := by
  obtain ⟨A, a⟩ := a; obtain ⟨B, c⟩ := c
  exact ⟨A + B, fun n hn => by simp only [stepS, a n (by omega), ht, c n (by omega), Option.bind_some, Option.map_some, if_true, if_false, Bool.false_eq_true]⟩
theorem s_ite_f {t : ME} (a : Ev X d t m h u h1) (ht : truth X h1 u = some false) (c : Ex X d o m h1 f m2 h2) : Sx X d (.ite t b o p) m h f m2 h2 := by
  obtain ⟨A, a⟩ := a; obtain ⟨B, c⟩ := c
  exact ⟨A + B, fun n hn => by simp only [stepS, a n (by omega), ht, c n (by omega), Option.bind_some, Option.map_some, if_true, if_false, Bool.false_eq_true]⟩
theorem s_ret (a : Ev X d e m h v h1) : Sx X d (.ret e p) m h (.ret v) m h1 := by
  obtain ⟨A, a⟩ := a
  exact ⟨A, fun n hn => by rw [stepS, a n hn]; rfl⟩
variable {chk : Hp → Bool} {st : V → M → Hp → Option M} {vs : List V}
theorem f_nil (hc : chk h = true) : For X d chk st b [] m h .next m h := ⟨0, fun n _ => by rw [mfor, if_pos hc]⟩
theorem f_cons (hc : chk h = true) (hs : st v m h = some m1) (a : Ex X d b m1 h .next m2 h1) {m3 : M} (g : For X d chk st b vs m2 h1 f m3 h2) : For X d chk st b (v :: vs) m h f m3 h2 := by
  obtain ⟨A, a⟩ := a; obtain ⟨B, g⟩ := g
  exact ⟨A + B, fun n hn => by
    rw [mfor, if_pos hc, hs, Option.bind_some, a n (by omega)]
    exact g n (by omega)⟩
theorem f_ret (hc : chk h = true) (hs : st v m h = some m1) (a : Ex X d b m1 h (.ret u) m2 h1) : For X d chk st b (v :: vs) m h (.ret u) m2 h1 := by
  obtain ⟨A, a⟩ := a
  exact ⟨A, fun n hn => by
    rw [mfor, if_pos hc, hs, Option.bind_some, a n (by omega)]; rfl⟩
theorem s_for {x : Nat} {xp : Pos} (a : Ev X d e m h u h1) (q : iterV X h1 u = some (vs, chk, h2)) (hb : ∀ n p as q, e ≠ .bcall n p as q) (c : For X d chk (st1 x) b vs m h2 f m2 h3) : Sx X d (.for1 x xp e b p) m h f m2 h3 := by
  obtain ⟨A, a⟩ := a; obtain ⟨B, c⟩ := c
  refine ⟨A + B, fun n hn => ?_⟩
  have hi : iter1 X (Mi funs X n d) e m h = some (vs, chk, h2) := by
    unfold iter1
    split
    · exact absurd rfl (hb _ _ _ _)
    · rw [a n (by omega)]
      exact q
  rw [stepS, hi]
  exact c n (by omega)
theorem s_range {x : Nat} {xp p1 p2 : Pos} {k : Int} (a : Ev X d e m h (.int k) h1) (hk : k.natAbs ≤ LIM) (c : For X d (fun _ => true) (st1 x) b ((List.range k.toNat).map fun (i : Nat) => V.int (i : Int)) m h1 f m2 h2) : Sx X d (.for1 x xp (.bcall .range p1 (.cons e .nil) p2) b p) m h f m2 h2 := by
  obtain ⟨A, a⟩ := a; obtain ⟨B, c⟩ := c
  refine ⟨A + B, fun n hn => ?_⟩
  have hi : iter1 X (Mi funs X n d) (.bcall .range p1 (.cons e .nil) p2) m h = some (((List.range k.toNat).map fun (i : Nat) => V.int (i : Int)), (fun (_ : Hp) => true), h1) := by
    show (((Mi funs X n d).ev e m h).bind fun (a, h) => match a with
      | V.int n => if n.natAbs ≤ LIM then some (List.map (fun (i : Nat) => V.int (i : Int)) (List.range n.toNat), fun (_ : Hp) => true, h) else none
      | _ => none) = _
    simp only [a n (by omega), Option.bind_some, if_pos hk]
  rw [stepS, hi]
  exact c n (by omega)
theorem c_is {g : Nat} {fn : Fn} {as : List V} (hf : funs[g]? = some fn) (hn : as.length = fn.np) (hb : Ex X d fn.body (as.map some ++ List.replicate (fn.nslots - fn.np) Option.none) h (.ret v) m1 h1) : Cl X (d + 1) g as h v h1 := by
  obtain ⟨B, hb⟩ := hb
  exact ⟨B + 1, fun n hn' => by
    obtain ⟨k, rfl⟩ : ∃ k, n = k + 1 := ⟨n - 1, by omega⟩
    show stepC funs (Mi funs X k d) g as h = _
    rw [stepC, hf]
    show ((if as.length = fn.np then some as else _).bind _) = _
    rw [if_pos hn]
    show Option.map _ ((Mi funs X k d).ex fn.body (as.map some ++ List.replicate (fn.nslots - fn.np) Option.none) h) = _
    rw [hb k (by omega)]; rfl⟩
theorem c_dflt {g j : Nat} {fn : Fn} {as : List V} (hf : funs[g]? = some fn) (hn : as.length + 1 = fn.np) (hj : fn.dflt = some j) (hb : Ex X d fn.body ((as ++ [V.ext j]).map some ++ List.replicate (fn.nslots - fn.np) Option.none) h (.ret v) m1 h1) : Cl X (d + 1) g as h v h1 := by
  obtain ⟨B, hb⟩ := hb
  exact ⟨B + 1, fun n hn' => by
    obtain ⟨k, rfl⟩ : ∃ k, n = k + 1 := ⟨n - 1, by omega⟩
    show stepC funs (Mi funs X k d) g as h = _
    rw [stepC, hf]
    show ((if as.length = fn.np then some as else match fn.dflt with | some j => if as.length + 1 = fn.np then some (as ++ [V.ext j]) else Option.none | Option.none => Option.none).bind _) = _
    rw [if_neg (by omega), hj]
    show ((if as.length + 1 = fn.np then some (as ++ [V.ext j]) else _).bind _) = _
    rw [if_pos hn]
    show Option.map _ ((Mi funs X k d).ex fn.body ((as ++ [V.ext j]).map some ++ List.replicate (fn.nslots - fn.np) Option.none) h) = _
    rw [hb k (by omega)]; rfl⟩
end
end Mine

end

section
open PySem
namespace Mine

/-! texts as lists of signs: replace, words, codes -/
theorem repl_fuel {y z : List Nat} (hy : y ≠ []) : ∀ {n m : Nat} {l : List Nat}, l.length ≤ n → l.length ≤ m → repl y z n l = repl y z m l
  | 0, 0, _, _, _ => rfl
  | 0, m + 1, [], _, _ => rfl
  | n + 1, 0, [], _, _ => rfl
  | n + 1, m + 1, [], _, _ => rfl
  | 0, _, _ :: _, h, _ => by simp at h
  | _, 0, _ :: _, _, h => by simp at h
  | n + 1, m + 1, c :: r, h1, h2 => by
    have yl : 1 ≤ y.length := by cases y with | nil => exact absurd rfl hy | cons => simp
    simp only [List.length_cons] at h1 h2
    unfold repl
    rw [repl_fuel hy (n := n) (m := m) (l := r) (by omega) (by omega), repl_fuel hy (n := n) (m := m) (l := (c :: r).drop y.length) (by simp; omega) (by simp; omega)]
theorem replace_nil {y z : List Nat} : replace y z [] = [] := rfl
theorem replace_cons {y z : List Nat} (hy : y ≠ []) (c : Nat) (r : List Nat) : replace y z (c :: r) = if y.isPrefixOf (c :: r) then z ++ replace y z ((c :: r).drop y.length) else c :: replace y z r := by
  have yl : 1 ≤ y.length := by cases y with | nil => exact absurd rfl hy | cons => simp
  unfold replace
  show repl y z (r.length + 1) (c :: r) = _
  rw [repl]
  rw [repl_fuel hy (n := r.length) (m := ((c :: r).drop y.length).length) (l := (c :: r).drop y.length) (by simp; omega) (Nat.le_refl _)]
/-- single signs -/
theorem replace_one {c : Nat} {z : List Nat} : ∀ l : List Nat, replace [c] z l = l.flatMap fun x => if x = c then z else [x]
  | [] => rfl
  | x :: r => by
    rw [replace_cons (by simp), List.flatMap_cons, ← replace_one r]
    by_cases h : x = c
    · subst h
      simp [List.isPrefixOf]
    · have : ([c].isPrefixOf (x :: r)) = false := by simp [List.isPrefixOf, Ne.symm h]
      rw [this]
      simp [h]
theorem replace_hit {y z r : List Nat} (hy : y ≠ []) : replace y z (y ++ r) = z ++ replace y z r := by
  cases y with
  | nil => exact absurd rfl hy
  | cons a y =>
    rw [List.cons_append, replace_cons hy]
    have : ((a :: y).isPrefixOf (a :: (y ++ r))) = true := isP_iff.mpr ⟨r, rfl⟩
    rw [this, if_pos rfl]
    congr 2
    rw [← List.cons_append, List.drop_left]
theorem replace_skip {y z : List Nat} (hy : y.head? = some 38) : ∀ (v r : List Nat), 38 ∉ v → replace y z (v ++ r) = v ++ replace y z r
  | [], r, _ => rfl
  | c :: v, r, h => by
    have hy0 : y ≠ [] := by rintro rfl; cases hy
    rw [List.cons_append, replace_cons hy0, List.cons_append, ← replace_skip hy v r fun q => h (.tail _ q)]
    cases y with
    | nil => cases hy
    | cons a y =>
      cases hy
      have : ((38 :: y).isPrefixOf (c :: (v ++ r))) = false := by
        simp only [List.isPrefixOf, Bool.and_eq_false_iff, beq_eq_false_iff_ne]
        exact .inl fun e => h (e ▸ .head _)
      rw [this]; rfl

noncomputable def isWord (w : List Nat) : Prop := ∃ u, w = 38 :: (u ++ [59]) ∧ 59 ∉ u ∧ 38 ∉ u
theorem split_first : ∀ {u v t r : List Nat}, 59 ∉ u → 59 ∉ v → u ++ 59 :: t = v ++ 59 :: r → u = v
  | [], [], _, _, _, _, _ => rfl
  | [], c :: v, _, _, _, h2, e => by
    injection e with e1 e2
    exact absurd (e1 ▸ .head _) h2
  | c :: u, [], _, _, h1, _, e => by
    injection e with e1 e2
    exact absurd (e1 ▸ .head _) h1
  | c :: u, d :: v, _, _, h1, h2, e => by
    injection e with e1 e2
    rw [e1, split_first (fun q => h1 (.tail _ q)) (fun q => h2 (.tail _ q)) e2]
theorem word_prefix {y c r : List Nat} (hy : isWord y) (hc : isWord c) (h : y <+: c ++ r) : y = c := by
  obtain ⟨u, rfl, u1, _⟩ := hy
  obtain ⟨v, rfl, v1, _⟩ := hc
  obtain ⟨t, e⟩ := h
  simp only [List.cons_append, List.append_assoc, List.singleton_append, List.cons.injEq, true_and] at e
  rw [split_first u1 v1 e]
theorem isWord.head {y : List Nat} (h : isWord y) : y.head? = some 38 := by obtain ⟨u, rfl, _⟩ := h; rfl
theorem isWord.ne {y : List Nat} (h : isWord y) : y ≠ [] := by obtain ⟨u, rfl, _⟩ := h; simp

/-- a code's words: a reference, or a single sign that is no & -/
noncomputable def okCode (w : List Nat) : Prop := isWord w ∨ ∃ c, w = [c] ∧ c ≠ 38
theorem replace_code {y z : List Nat} (hy : isWord y) {code : Nat → List Nat} : ∀ l : List Nat, (∀ x ∈ l, okCode (code x)) → replace y z (l.flatMap code) = l.flatMap fun x => if code x = y then z else code x
  | [], _ => rfl
  | x :: r, h => by
    have ih := replace_code hy (z := z) r fun q hq => h q (.tail _ hq)
    rw [List.flatMap_cons, List.flatMap_cons, ← ih]
    rcases h x (.head _) with hw | ⟨c, hc, hc2⟩
    · by_cases e : code x = y
      · rw [if_pos e, e, replace_hit hy.ne]
      · rw [if_neg e]
        obtain ⟨v, hv, v1, v2⟩ := id hw
        have np : y.isPrefixOf (code x ++ r.flatMap code) = false := by
          cases q : y.isPrefixOf (code x ++ r.flatMap code) with
          | false => rfl
          | true => exact absurd (word_prefix hy hw (isP_iff.mp q)).symm e
        rw [hv] at np ⊢
        rw [List.cons_append] at np ⊢
        rw [replace_cons hy.ne, np]
        rw [if_neg Bool.false_ne_true, replace_skip hy.head (v ++ [59]) _ (by simp [v2])]
        rfl
    · have : code x ≠ y := by
        rintro e
        obtain ⟨u, hu, _⟩ := hy
        rw [hc, hu] at e
        injection e with e1 e2
        exact hc2 e1
      rw [if_neg this, hc, replace_skip hy.head [c] _ (by simpa using Ne.symm hc2)]

end Mine

end

section
open PySem
namespace Mine

/-! the writers of the law, and their readers -/
noncomputable def amp : List Nat := lit "&amp;"
noncomputable def code3 (x : Nat) : List Nat := if x = 38 then lit "&amp;" else if x = 62 then lit "&gt;" else if x = 60 then lit "&lt;" else [x]
noncomputable def code6 (x : Nat) : List Nat := if x = 10 then lit "&#10;" else if x = 13 then lit "&#13;" else if x = 9 then lit "&#9;" else code3 x
noncomputable def code7 (x : Nat) : List Nat := if x = 34 then lit "&quot;" else code6 x
noncomputable def E3 (l : List Nat) : List Nat := replace (lit "<") (lit "&lt;") (replace (lit ">") (lit "&gt;") (replace (lit "&") (lit "&amp;") l))
noncomputable def EE (es : List (List Nat × List Nat)) (l : List Nat) : List Nat := es.foldl (fun l e => replace e.1 e.2 l) (E3 l)
noncomputable def UU (es : List (List Nat × List Nat)) (l : List Nat) : List Nat := replace (lit "&amp;") (lit "&") (es.foldl (fun l e => replace e.1 e.2 l) (replace (lit "&gt;") (lit ">") (replace (lit "&lt;") (lit "<") l)))

theorem flat_flat {f g : Nat → List Nat} (l : List Nat) : (l.flatMap g).flatMap f = l.flatMap fun x => (g x).flatMap f := List.flatMap_assoc
theorem flat_congr {f g : Nat → List Nat} {l : List Nat} (h : ∀ x ∈ l, f x = g x) : l.flatMap f = l.flatMap g := by
  induction l with
  | nil => rfl
  | cons x r ih => rw [List.flatMap_cons, List.flatMap_cons, h x (.head _), ih fun q hq => h q (.tail _ hq)]
theorem flat_one (l : List Nat) : (l.flatMap fun x => [x]) = l := by
  induction l with
  | nil => rfl
  | cons x r ih => rw [List.flatMap_cons, ih]; rfl

theorem E3_code (l : List Nat) : E3 l = l.flatMap code3 := by
  unfold E3
  rw [show lit "<" = [60] from rfl, show lit ">" = [62] from rfl, show lit "&" = [38] from rfl, replace_one, replace_one, replace_one, flat_flat, flat_flat]
  refine flat_congr fun x _ => ?_
  unfold code3
  by_cases h1 : x = 38
  · subst h1; decide
  · by_cases h2 : x = 62
    · subst h2; decide
    · by_cases h3 : x = 60
      · subst h3; decide
      · simp [h1, h2, h3]
noncomputable def whites : List (List Nat × List Nat) := [(lit "\n", lit "&#10;"), (lit "\r", lit "&#13;"), (lit "\t", lit "&#9;")]
theorem E6_code (l : List Nat) : EE whites l = l.flatMap code6 := by
  show replace (lit "\t") (lit "&#9;") (replace (lit "\r") (lit "&#13;") (replace (lit "\n") (lit "&#10;") (E3 l))) = _
  rw [E3_code, show lit "\t" = [9] from rfl, show lit "\r" = [13] from rfl, show lit "\n" = [10] from rfl, replace_one, replace_one, replace_one, flat_flat, flat_flat, flat_flat]
  refine flat_congr fun x _ => ?_
  unfold code6 code3
  by_cases h4 : x = 10
  · subst h4; decide
  · by_cases h5 : x = 13
    · subst h5; decide
    · by_cases h6 : x = 9
      · subst h6; decide
      · by_cases h1 : x = 38
        · subst h1; decide
        · by_cases h2 : x = 62
          · subst h2; decide
          · by_cases h3 : x = 60
            · subst h3; decide
            · simp [h1, h2, h3, h4, h5, h6]
theorem E7_code (l : List Nat) : replace (lit "\"") (lit "&quot;") (l.flatMap code6) = l.flatMap code7 := by
  rw [show lit "\"" = [34] from rfl, replace_one, flat_flat]
  refine flat_congr fun x _ => ?_
  unfold code7 code6 code3
  by_cases h0 : x = 34
  · subst h0; decide
  · by_cases h4 : x = 10
    · subst h4; decide
    · by_cases h5 : x = 13
      · subst h5; decide
      · by_cases h6 : x = 9
        · subst h6; decide
        · by_cases h1 : x = 38
          · subst h1; decide
          · by_cases h2 : x = 62
            · subst h2; decide
            · by_cases h3 : x = 60
              · subst h3; decide
              · simp [h0, h1, h2, h3, h4, h5, h6]

/-! unescape undoes a code -/
noncomputable def codeS (code : Nat → List Nat) (S : List (List Nat)) (x : Nat) : List Nat := if code x ∈ S then [x] else code x
theorem U_step {code : Nat → List Nat} {S : List (List Nat)} {y z l : List Nat} (hy : isWord y) (hamp : amp ∉ S) (h38 : ∀ x, x = 38 → code x = amp) (hok : ∀ x, okCode (code x)) (hz : ∀ x, code x = y → z = [x]) :
    replace y z (l.flatMap (codeS code S)) = l.flatMap (codeS code (y :: S)) := by
  rw [replace_code hy]
  · refine flat_congr fun x _ => ?_
    unfold codeS
    have y1 : [x] ≠ y := by obtain ⟨u, hu, _⟩ := hy; rw [hu]; simp
    by_cases hS : code x ∈ S
    · rw [if_pos hS, if_neg y1, if_pos (.tail _ hS)]
    · rw [if_neg hS]
      by_cases e : code x = y
      · rw [if_pos e, if_pos (e ▸ .head _), hz x e]
      · rw [if_neg e, if_neg (by rw [List.mem_cons, not_or]; exact ⟨e, hS⟩)]
  · intro x _
    unfold codeS
    by_cases hS : code x ∈ S
    · rw [if_pos hS]
      exact .inr ⟨x, rfl, fun e => hamp (h38 x e ▸ hS)⟩
    · rw [if_neg hS]; exact hok x
theorem U_fold {code : Nat → List Nat} {l : List Nat} (h38 : ∀ x, x = 38 → code x = amp) (hok : ∀ x, okCode (code x)) : ∀ (ps : List (List Nat × List Nat)) (S : List (List Nat)), amp ∉ S → (∀ p ∈ ps, isWord p.1 ∧ p.1 ≠ amp ∧ ∀ x, code x = p.1 → p.2 = [x]) →
    ps.foldl (fun l e => replace e.1 e.2 l) (l.flatMap (codeS code S)) = l.flatMap (codeS code ((ps.map (·.1)).reverse ++ S)) ∧ amp ∉ (ps.map (·.1)).reverse ++ S
  | [], S, h, _ => ⟨rfl, h⟩
  | p :: ps, S, h, hp => by
    obtain ⟨h1, h2, h3⟩ := hp p (.head _)
    have hS : amp ∉ p.1 :: S := by rw [List.mem_cons, not_or]; exact ⟨Ne.symm h2, h⟩
    have ih := U_fold (l := l) h38 hok ps (p.1 :: S) hS fun q hq => hp q (.tail _ hq)
    rw [List.foldl_cons, U_step h1 h h38 hok h3]
    simpa using ih
theorem UU_code {code : Nat → List Nat} {es : List (List Nat × List Nat)} (l : List Nat) (h38 : ∀ x, x = 38 → code x = amp) (hok : ∀ x, okCode (code x)) (ha : ∀ x, code x = amp → x = 38)
    (hp : ∀ p ∈ (lit "&lt;", lit "<") :: (lit "&gt;", lit ">") :: es, isWord p.1 ∧ p.1 ≠ amp ∧ ∀ x, code x = p.1 → p.2 = [x])
    (hall : ∀ x ∈ l, code x = [x] ∨ code x = amp ∨ code x ∈ ((lit "&lt;", lit "<") :: (lit "&gt;", lit ">") :: es).map (·.1)) : UU es (l.flatMap code) = l := by
  have h0 : l.flatMap code = l.flatMap (codeS code []) := flat_congr fun x _ => by unfold codeS; rw [if_neg (by simp)]
  obtain ⟨h1, h2⟩ := U_fold (l := l) h38 hok _ [] (by simp) hp
  show replace (lit "&amp;") (lit "&") (((lit "&lt;", lit "<") :: (lit "&gt;", lit ">") :: es).foldl (fun l e => replace e.1 e.2 l) (l.flatMap code)) = l
  rw [h0, h1, show lit "&amp;" = amp from rfl, U_step ⟨[97, 109, 112], by decide, by decide, by decide⟩ h2 h38 hok (fun x e => by rw [ha x e]; decide)]
  refine (flat_congr fun x hx => ?_).trans (flat_one l)
  unfold codeS
  rcases hall x hx with e | e | e
  · rw [e]; split <;> rfl
  · rw [if_pos (e ▸ .head _)]
  · rw [if_pos (List.mem_cons_of_mem _ (by rw [List.append_nil, List.mem_reverse]; exact e))]
end Mine

end

section
open PySem
namespace Mine

theorem w_amp : isWord (lit "&amp;") := ⟨[97, 109, 112], by decide, by decide, by decide⟩
theorem w_lt : isWord (lit "&lt;") := ⟨[108, 116], by decide, by decide, by decide⟩
theorem w_gt : isWord (lit "&gt;") := ⟨[103, 116], by decide, by decide, by decide⟩
theorem w_quot : isWord (lit "&quot;") := ⟨[113, 117, 111, 116], by decide, by decide, by decide⟩
theorem w_10 : isWord (lit "&#10;") := ⟨[35, 49, 48], by decide, by decide, by decide⟩
theorem w_13 : isWord (lit "&#13;") := ⟨[35, 49, 51], by decide, by decide, by decide⟩
theorem w_9 : isWord (lit "&#9;") := ⟨[35, 57], by decide, by decide, by decide⟩

theorem cases7 {P : Nat → Prop} (a : P 34) (b : P 10) (c : P 13) (d : P 9) (e : P 38) (f : P 62) (g : P 60) (o : ∀ x, x ≠ 34 → x ≠ 10 → x ≠ 13 → x ≠ 9 → x ≠ 38 → x ≠ 62 → x ≠ 60 → P x) (x : Nat) : P x := by
  by_cases h1 : x = 34
  · exact h1 ▸ a
  by_cases h2 : x = 10
  · exact h2 ▸ b
  by_cases h3 : x = 13
  · exact h3 ▸ c
  by_cases h4 : x = 9
  · exact h4 ▸ d
  by_cases h5 : x = 38
  · exact h5 ▸ e
  by_cases h6 : x = 62
  · exact h6 ▸ f
  by_cases h7 : x = 60
  · exact h7 ▸ g
  exact o x h1 h2 h3 h4 h5 h6 h7

theorem ok3 (x : Nat) : okCode (code3 x) := by
  refine cases7 (P := fun x => okCode (code3 x)) (.inr ⟨34, rfl, by decide⟩) (.inr ⟨10, rfl, by decide⟩) (.inr ⟨13, rfl, by decide⟩) (.inr ⟨9, rfl, by decide⟩) (.inl w_amp) (.inl w_gt) (.inl w_lt) (fun x _ _ _ _ h5 h6 h7 => .inr ⟨x, by simp [code3, h5, h6, h7], h5⟩) x
theorem ok6 (x : Nat) : okCode (code6 x) := by
  refine cases7 (P := fun x => okCode (code6 x)) (.inr ⟨34, rfl, by decide⟩) (.inl w_10) (.inl w_13) (.inl w_9) (.inl w_amp) (.inl w_gt) (.inl w_lt) (fun x h1 h2 h3 h4 h5 h6 h7 => .inr ⟨x, by simp [code6, code3, h2, h3, h4, h5, h6, h7], h5⟩) x
theorem ok7 (x : Nat) : okCode (code7 x) := by
  refine cases7 (P := fun x => okCode (code7 x)) (.inl w_quot) (.inl w_10) (.inl w_13) (.inl w_9) (.inl w_amp) (.inl w_gt) (.inl w_lt) (fun x h1 h2 h3 h4 h5 h6 h7 => .inr ⟨x, by simp [code7, code6, code3, h1, h2, h3, h4, h5, h6, h7], h5⟩) x

theorem one3 {x : Nat} (h5 : x ≠ 38) (h6 : x ≠ 62) (h7 : x ≠ 60) : code3 x = [x] := by simp [code3, h5, h6, h7]
theorem one6 {x : Nat} (h2 : x ≠ 10) (h3 : x ≠ 13) (h4 : x ≠ 9) (h5 : x ≠ 38) (h6 : x ≠ 62) (h7 : x ≠ 60) : code6 x = [x] := by simp [code6, code3, h2, h3, h4, h5, h6, h7]
theorem one7 {x : Nat} (h1 : x ≠ 34) (h2 : x ≠ 10) (h3 : x ≠ 13) (h4 : x ≠ 9) (h5 : x ≠ 38) (h6 : x ≠ 62) (h7 : x ≠ 60) : code7 x = [x] := by simp [code7, code6, code3, h1, h2, h3, h4, h5, h6, h7]
theorem no_one {x : Nat} {w : List Nat} (h : isWord w) (e : [x] = w) : False := by
  obtain ⟨u, hu, _⟩ := h
  rw [hu] at e
  simp at e
/-- a word comes from its sign alone -/
theorem inv3 {w z : List Nat} (hw : isWord w) (h : ∀ x ∈ [34, 10, 13, 9, 38, 62, 60], code3 x = w → z = [x]) (x : Nat) : code3 x = w → z = [x] :=
  cases7 (P := fun x => code3 x = w → z = [x]) (h 34 (by decide)) (h 10 (by decide)) (h 13 (by decide)) (h 9 (by decide)) (h 38 (by decide)) (h 62 (by decide)) (h 60 (by decide)) (fun x _ _ _ _ h5 h6 h7 e => (no_one hw ((one3 h5 h6 h7).symm.trans e)).elim) x
theorem inv6 {w z : List Nat} (hw : isWord w) (h : ∀ x ∈ [34, 10, 13, 9, 38, 62, 60], code6 x = w → z = [x]) (x : Nat) : code6 x = w → z = [x] :=
  cases7 (P := fun x => code6 x = w → z = [x]) (h 34 (by decide)) (h 10 (by decide)) (h 13 (by decide)) (h 9 (by decide)) (h 38 (by decide)) (h 62 (by decide)) (h 60 (by decide)) (fun x h1 h2 h3 h4 h5 h6 h7 e => (no_one hw ((one6 h2 h3 h4 h5 h6 h7).symm.trans e)).elim) x
theorem inv7 {w z : List Nat} (hw : isWord w) (h : ∀ x ∈ [34, 10, 13, 9, 38, 62, 60], code7 x = w → z = [x]) (x : Nat) : code7 x = w → z = [x] :=
  cases7 (P := fun x => code7 x = w → z = [x]) (h 34 (by decide)) (h 10 (by decide)) (h 13 (by decide)) (h 9 (by decide)) (h 38 (by decide)) (h 62 (by decide)) (h 60 (by decide)) (fun x h1 h2 h3 h4 h5 h6 h7 e => (no_one hw ((one7 h1 h2 h3 h4 h5 h6 h7).symm.trans e)).elim) x

theorem inj1 {a b : Nat} (h : [a] = [b]) : b = a := by simpa using h.symm
theorem U3 (l : List Nat) : UU [] (l.flatMap code3) = l := by
  refine UU_code l (by rintro x rfl; rfl) ok3 (fun x e => inj1 (inv3 (z := [38]) w_amp (by decide) x e)) ?_ ?_
  · intro p hp
    simp only [List.mem_cons, List.not_mem_nil, or_false] at hp
    rcases hp with rfl | rfl
    · exact ⟨w_lt, by decide, inv3 w_lt (by decide)⟩
    · exact ⟨w_gt, by decide, inv3 w_gt (by decide)⟩
  · exact fun x _ => cases7 (P := fun x => code3 x = [x] ∨ code3 x = amp ∨ code3 x ∈ ((lit "&lt;", lit "<") :: (lit "&gt;", lit ">") :: []).map (·.1)) (by decide) (by decide) (by decide) (by decide) (by decide) (by decide) (by decide) (fun x _ _ _ _ h5 h6 h7 => .inl (one3 h5 h6 h7)) x
noncomputable def tab4 : List (List Nat × List Nat) := [(lit "&quot;", lit "\""), (lit "&#10;", lit "\n"), (lit "&#13;", lit "\r"), (lit "&#9;", lit "\t")]
theorem U6 (l : List Nat) : UU tab4 (l.flatMap code6) = l := by
  refine UU_code l (by rintro x rfl; rfl) ok6 (fun x e => inj1 (inv6 (z := [38]) w_amp (by decide) x e)) ?_ ?_
  · intro p hp
    simp only [tab4, List.mem_cons, List.not_mem_nil, or_false] at hp
    rcases hp with rfl | rfl | rfl | rfl | rfl | rfl
    · exact ⟨w_lt, by decide, inv6 w_lt (by decide)⟩
    · exact ⟨w_gt, by decide, inv6 w_gt (by decide)⟩
    · exact ⟨w_quot, by decide, inv6 w_quot (by decide)⟩
    · exact ⟨w_10, by decide, inv6 w_10 (by decide)⟩
    · exact ⟨w_13, by decide, inv6 w_13 (by decide)⟩
    · exact ⟨w_9, by decide, inv6 w_9 (by decide)⟩
  · exact fun x _ => cases7 (P := fun x => code6 x = [x] ∨ code6 x = amp ∨ code6 x ∈ ((lit "&lt;", lit "<") :: (lit "&gt;", lit ">") :: tab4).map (·.1)) (by decide) (by decide) (by decide) (by decide) (by decide) (by decide) (by decide) (fun x h1 h2 h3 h4 h5 h6 h7 => .inl (one6 h2 h3 h4 h5 h6 h7)) x
theorem U7 (l : List Nat) : UU tab4 (l.flatMap code7) = l := by
  refine UU_code l (by rintro x rfl; rfl) ok7 (fun x e => inj1 (inv7 (z := [38]) w_amp (by decide) x e)) ?_ ?_
  · intro p hp
    simp only [tab4, List.mem_cons, List.not_mem_nil, or_false] at hp
    rcases hp with rfl | rfl | rfl | rfl | rfl | rfl
    · exact ⟨w_lt, by decide, inv7 w_lt (by decide)⟩
    · exact ⟨w_gt, by decide, inv7 w_gt (by decide)⟩
    · exact ⟨w_quot, by decide, inv7 w_quot (by decide)⟩
    · exact ⟨w_10, by decide, inv7 w_10 (by decide)⟩
    · exact ⟨w_13, by decide, inv7 w_13 (by decide)⟩
    · exact ⟨w_9, by decide, inv7 w_9 (by decide)⟩
  · exact fun x _ => cases7 (P := fun x => code7 x = [x] ∨ code7 x = amp ∨ code7 x ∈ ((lit "&lt;", lit "<") :: (lit "&gt;", lit ">") :: tab4).map (·.1)) (by decide) (by decide) (by decide) (by decide) (by decide) (by decide) (by decide) (fun x h1 h2 h3 h4 h5 h6 h7 => .inl (one7 h1 h2 h3 h4 h5 h6 h7)) x

noncomputable def W3 (l : List Nat) : List Nat :=
  if 34 ∈ EE whites l then (if 39 ∈ EE whites l then 34 :: (replace (lit "\"") (lit "&quot;") (EE whites l) ++ [34]) else 39 :: (EE whites l ++ [39])) else 34 :: (EE whites l ++ [34])
theorem mem6 {c : Nat} (hc : c = 34 ∨ c = 39) {l : List Nat} : c ∈ l.flatMap code6 ↔ c ∈ l := by
  rw [List.mem_flatMap]
  have key : ∀ x, c ∈ code6 x → x = c := by
    intro x
    rcases hc with rfl | rfl
    · exact cases7 (P := fun x => 34 ∈ code6 x → x = 34) (by decide) (by decide) (by decide) (by decide) (by decide) (by decide) (by decide) (fun x h1 h2 h3 h4 h5 h6 h7 h => by rw [one6 h2 h3 h4 h5 h6 h7] at h; exact (List.mem_singleton.mp h).symm) x
    · exact cases7 (P := fun x => 39 ∈ code6 x → x = 39) (by decide) (by decide) (by decide) (by decide) (by decide) (by decide) (by decide) (fun x h1 h2 h3 h4 h5 h6 h7 h => by rw [one6 h2 h3 h4 h5 h6 h7] at h; exact (List.mem_singleton.mp h).symm) x
  constructor
  · rintro ⟨x, hx, h⟩
    exact key x h ▸ hx
  · intro h
    exact ⟨c, h, by rcases hc with rfl | rfl <;> decide⟩
theorem flat67 {l : List Nat} (h : 34 ∉ l) : l.flatMap code6 = l.flatMap code7 := flat_congr fun x hx => by
  unfold code7
  rw [if_neg (fun e : x = 34 => h (e ▸ hx))]
theorem W3_eq (l : List Nat) : W3 l = if 34 ∈ l ∧ 39 ∉ l then 39 :: (l.flatMap code6 ++ [39]) else 34 :: (l.flatMap code7 ++ [34]) := by
  unfold W3
  rw [E6_code]
  simp only [mem6 (.inl rfl), mem6 (.inr rfl)]
  by_cases h1 : 34 ∈ l
  · by_cases h2 : 39 ∈ l
    · rw [if_pos h1, if_pos h2, if_neg (by simp [h2]), E7_code]
    · rw [if_pos h1, if_neg h2, if_pos ⟨h1, h2⟩]
  · rw [if_neg h1, if_neg (by simp [h1]), flat67 h1]

/-- a code has no sign c -/
theorem code_free {code : Nat → List Nat} {c : Nat} (h : ∀ x, c ∉ code x) (l : List Nat) : c ∉ l.flatMap code := by
  rw [List.mem_flatMap]
  rintro ⟨x, _, hx⟩
  exact h x hx
theorem free3 {c : Nat} (hc : c = 60 ∨ c = 62) (x : Nat) : c ∉ code3 x := by
  rcases hc with rfl | rfl
  · exact cases7 (P := fun x => 60 ∉ code3 x) (by decide) (by decide) (by decide) (by decide) (by decide) (by decide) (by decide) (fun x _ _ _ _ h5 h6 h7 => by rw [one3 h5 h6 h7]; simpa using Ne.symm h7) x
  · exact cases7 (P := fun x => 62 ∉ code3 x) (by decide) (by decide) (by decide) (by decide) (by decide) (by decide) (by decide) (fun x _ _ _ _ h5 h6 h7 => by rw [one3 h5 h6 h7]; simpa using Ne.symm h6) x
theorem free6 {c : Nat} (hc : c = 60 ∨ c = 62) (x : Nat) : c ∉ code6 x := by
  rcases hc with rfl | rfl
  · exact cases7 (P := fun x => 60 ∉ code6 x) (by decide) (by decide) (by decide) (by decide) (by decide) (by decide) (by decide) (fun x _ h2 h3 h4 h5 h6 h7 => by rw [one6 h2 h3 h4 h5 h6 h7]; simpa using Ne.symm h7) x
  · exact cases7 (P := fun x => 62 ∉ code6 x) (by decide) (by decide) (by decide) (by decide) (by decide) (by decide) (by decide) (fun x _ h2 h3 h4 h5 h6 h7 => by rw [one6 h2 h3 h4 h5 h6 h7]; simpa using Ne.symm h6) x
theorem free7 {c : Nat} (hc : c = 60 ∨ c = 62 ∨ c = 34) (x : Nat) : c ∉ code7 x := by
  rcases hc with rfl | rfl | rfl
  · exact cases7 (P := fun x => 60 ∉ code7 x) (by decide) (by decide) (by decide) (by decide) (by decide) (by decide) (by decide) (fun x h1 h2 h3 h4 h5 h6 h7 => by rw [one7 h1 h2 h3 h4 h5 h6 h7]; simpa using Ne.symm h7) x
  · exact cases7 (P := fun x => 62 ∉ code7 x) (by decide) (by decide) (by decide) (by decide) (by decide) (by decide) (by decide) (fun x h1 h2 h3 h4 h5 h6 h7 => by rw [one7 h1 h2 h3 h4 h5 h6 h7]; simpa using Ne.symm h6) x
  · exact cases7 (P := fun x => 34 ∉ code7 x) (by decide) (by decide) (by decide) (by decide) (by decide) (by decide) (by decide) (fun x h1 h2 h3 h4 h5 h6 h7 => by rw [one7 h1 h2 h3 h4 h5 h6 h7]; simpa using Ne.symm h1) x
theorem E3_free {c : Nat} (hc : c = 60 ∨ c = 62) (l : List Nat) : c ∉ E3 l := by rw [E3_code]; exact code_free (free3 hc) l
theorem flat_len {f : Nat → List Nat} {k : Nat} (hf : ∀ x, (f x).length ≤ k) (l : List Nat) : (l.flatMap f).length ≤ k * l.length := by
  induction l with
  | nil => simp
  | cons x r ih => rw [List.flatMap_cons, List.length_append, List.length_cons, Nat.mul_succ]; have := hf x; omega
theorem flat_ge {f : Nat → List Nat} (hf : ∀ x, 1 ≤ (f x).length) (l : List Nat) : l.length ≤ (l.flatMap f).length := by
  induction l with
  | nil => simp
  | cons x r ih => rw [List.flatMap_cons, List.length_append, List.length_cons]; have := hf x; omega
theorem len3 (x : Nat) : (code3 x).length ≤ 5 ∧ 1 ≤ (code3 x).length := cases7 (P := fun x => (code3 x).length ≤ 5 ∧ 1 ≤ (code3 x).length) (by decide) (by decide) (by decide) (by decide) (by decide) (by decide) (by decide) (fun x _ _ _ _ h5 h6 h7 => by rw [one3 h5 h6 h7]; simp) x
theorem len6 (x : Nat) : (code6 x).length ≤ 5 := cases7 (P := fun x => (code6 x).length ≤ 5) (by decide) (by decide) (by decide) (by decide) (by decide) (by decide) (by decide) (fun x _ h2 h3 h4 h5 h6 h7 => by rw [one6 h2 h3 h4 h5 h6 h7]; simp) x
theorem len7 (x : Nat) : (code7 x).length ≤ 6 := cases7 (P := fun x => (code7 x).length ≤ 6) (by decide) (by decide) (by decide) (by decide) (by decide) (by decide) (by decide) (fun x h1 h2 h3 h4 h5 h6 h7 => by rw [one7 h1 h2 h3 h4 h5 h6 h7]; simp) x
theorem E3_len (l : List Nat) : (E3 l).length ≤ 5 * l.length := by rw [E3_code]; exact flat_len (fun x => (len3 x).1) l
theorem E3_ge (l : List Nat) : l.length ≤ (E3 l).length := by rw [E3_code]; exact flat_ge (fun x => (len3 x).2) l
/-- what quoteattr writes: a quote, a body without it, the quote -/
theorem W3_form (l : List Nat) : ∃ q b, (q = 34 ∨ q = 39) ∧ W3 l = q :: (b ++ [q]) ∧ q ∉ b ∧ 60 ∉ b ∧ 62 ∉ b ∧ UU tab4 b = l ∧ b.length ≤ 6 * l.length := by
  rw [W3_eq]
  by_cases hc : 34 ∈ l ∧ 39 ∉ l
  · rw [if_pos hc]
    exact ⟨39, _, .inr rfl, rfl, fun h => hc.2 ((mem6 (.inr rfl)).mp h), code_free (free6 (.inl rfl)) l, code_free (free6 (.inr rfl)) l, U6 l, by have := flat_len len6 l; omega⟩
  · rw [if_neg hc]
    exact ⟨34, _, .inl rfl, rfl, code_free (free7 (.inr (.inr rfl))) l, code_free (free7 (.inl rfl)) l, code_free (free7 (.inr (.inl rfl))) l, U7 l, flat_len len7 l⟩
theorem U3E (l : List Nat) : UU [] (E3 l) = l := by rw [E3_code, U3]
end Mine

end

section
open PySem
namespace Mine

/-! a code's text, cut anywhere -/
/-- what is left of a word's head: no reference stands in it -/
noncomputable def isHead (R : List Nat) : Prop := R = [] ∨ ∃ u, R = 38 :: u ∧ 59 ∉ u ∧ 38 ∉ u
theorem replace_free {y z v : List Nat} (hy : isWord y) (h : 38 ∉ v) : replace y z v = v := by
  have := replace_skip (z := z) hy.head v [] h
  simpa [replace_nil] using this
theorem replace_head {y z R : List Nat} (hy : isWord y) (h : isHead R) : replace y z R = R := by
  rcases h with rfl | ⟨u, rfl, h1, h2⟩
  · rfl
  · rw [replace_cons hy.ne]
    have np : y.isPrefixOf (38 :: u) = false := by
      cases q : y.isPrefixOf (38 :: u) with
      | false => rfl
      | true =>
        exfalso
        obtain ⟨v, rfl, _, _⟩ := id hy
        have := (isP_iff.mp q).subset (a := 59) (by simp)
        rcases List.mem_cons.mp this with e | e
        · cases e
        · exact h1 e
    rw [np, if_neg Bool.false_ne_true, replace_free hy h2]
theorem replace_code_R {y z R : List Nat} (hy : isWord y) (hR : isHead R) {code : Nat → List Nat} : ∀ l : List Nat, (∀ x ∈ l, okCode (code x)) → replace y z (l.flatMap code ++ R) = (l.flatMap fun x => if code x = y then z else code x) ++ R
  | [], _ => replace_head hy hR
  | x :: r, h => by
    have ih := replace_code_R hy hR (z := z) r fun q hq => h q (.tail _ hq)
    rw [List.flatMap_cons, List.flatMap_cons, List.append_assoc, List.append_assoc, ← ih]
    rcases h x (.head _) with hw | ⟨c, hc, hc2⟩
    · by_cases e : code x = y
      · rw [if_pos e, e, replace_hit hy.ne]
      · rw [if_neg e]
        obtain ⟨v, hv, v1, v2⟩ := id hw
        have np : y.isPrefixOf (code x ++ (r.flatMap code ++ R)) = false := by
          cases q : y.isPrefixOf (code x ++ (r.flatMap code ++ R)) with
          | false => rfl
          | true => exact absurd (word_prefix hy hw (isP_iff.mp q)).symm e
        rw [hv] at np ⊢
        rw [List.cons_append] at np ⊢
        rw [replace_cons hy.ne, np]
        rw [if_neg Bool.false_ne_true, replace_skip hy.head (v ++ [59]) _ (by simp [v2])]
        rfl
    · have : code x ≠ y := by
        rintro e
        obtain ⟨u, hu, _⟩ := hy
        rw [hc, hu] at e
        injection e with e1 e2
        exact hc2 e1
      rw [if_neg this, hc, replace_skip hy.head [c] _ (by simpa using Ne.symm hc2)]
theorem U_step_R {code : Nat → List Nat} {S : List (List Nat)} {y z l T R : List Nat} (hT : 38 ∉ T) (hR : isHead R) (hy : isWord y) (hamp : amp ∉ S) (h38 : ∀ x, x = 38 → code x = amp) (hok : ∀ x, okCode (code x)) (hz : ∀ x, code x = y → z = [x]) :
    replace y z (T ++ (l.flatMap (codeS code S) ++ R)) = T ++ (l.flatMap (codeS code (y :: S)) ++ R) := by
  rw [replace_skip hy.head T _ hT, replace_code_R hy hR]
  · congr 2
    refine flat_congr fun x _ => ?_
    unfold codeS
    have y1 : [x] ≠ y := by obtain ⟨u, hu, _⟩ := hy; rw [hu]; simp
    by_cases hS : code x ∈ S
    · rw [if_pos hS, if_neg y1, if_pos (.tail _ hS)]
    · rw [if_neg hS]
      by_cases e : code x = y
      · rw [if_pos e, if_pos (e ▸ .head _), hz x e]
      · rw [if_neg e, if_neg (by rw [List.mem_cons, not_or]; exact ⟨e, hS⟩)]
  · intro x _
    unfold codeS
    by_cases hS : code x ∈ S
    · rw [if_pos hS]
      exact .inr ⟨x, rfl, fun e => hamp (h38 x e ▸ hS)⟩
    · rw [if_neg hS]; exact hok x
theorem U_fold_R {code : Nat → List Nat} {l T R : List Nat} (hT : 38 ∉ T) (hR : isHead R) (h38 : ∀ x, x = 38 → code x = amp) (hok : ∀ x, okCode (code x)) : ∀ (ps : List (List Nat × List Nat)) (S : List (List Nat)), amp ∉ S → (∀ p ∈ ps, isWord p.1 ∧ p.1 ≠ amp ∧ ∀ x, code x = p.1 → p.2 = [x]) →
    ps.foldl (fun l e => replace e.1 e.2 l) (T ++ (l.flatMap (codeS code S) ++ R)) = T ++ (l.flatMap (codeS code ((ps.map (·.1)).reverse ++ S)) ++ R) ∧ amp ∉ (ps.map (·.1)).reverse ++ S
  | [], S, h, _ => ⟨rfl, h⟩
  | p :: ps, S, h, hp => by
    obtain ⟨h1, h2, h3⟩ := hp p (.head _)
    have hS : amp ∉ p.1 :: S := by rw [List.mem_cons, not_or]; exact ⟨Ne.symm h2, h⟩
    have ih := U_fold_R (l := l) hT hR h38 hok ps (p.1 :: S) hS fun q hq => hp q (.tail _ hq)
    rw [List.foldl_cons, U_step_R hT hR h1 h h38 hok h3]
    simpa using ih

/-- a code, its reader's table, its signs' sizes -/
structure Cod (code : Nat → List Nat) (es : List (List Nat × List Nat)) : Prop where
  amp : ∀ x, x = 38 → code x = amp
  ok : ∀ x, okCode (code x)
  inv : ∀ x, code x = Mine.amp → x = 38
  tab : ∀ p ∈ (lit "&lt;", lit "<") :: (lit "&gt;", lit ">") :: es, isWord p.1 ∧ p.1 ≠ Mine.amp ∧ ∀ x, code x = p.1 → p.2 = [x]
  all : ∀ x, code x = [x] ∨ code x = Mine.amp ∨ code x ∈ ((lit "&lt;", lit "<") :: (lit "&gt;", lit ">") :: es).map (·.1)
theorem UU_cut {code : Nat → List Nat} {es : List (List Nat × List Nat)} (K : Cod code es) (l : List Nat) {T R : List Nat} (hT : 38 ∉ T) (hR : isHead R) : UU es (T ++ (l.flatMap code ++ R)) = T ++ (l ++ R) := by
  have h0 : l.flatMap code = l.flatMap (codeS code []) := flat_congr fun x _ => by unfold codeS; rw [if_neg (by simp)]
  obtain ⟨h1, h2⟩ := U_fold_R (l := l) hT hR K.amp K.ok _ [] (by simp) K.tab
  show replace (lit "&amp;") (lit "&") (((lit "&lt;", lit "<") :: (lit "&gt;", lit ">") :: es).foldl (fun l e => replace e.1 e.2 l) (T ++ (l.flatMap code ++ R))) = T ++ (l ++ R)
  rw [h0, h1, show lit "&amp;" = Mine.amp from rfl, U_step_R hT hR ⟨[97, 109, 112], by decide, by decide, by decide⟩ h2 K.amp K.ok (fun x e => by rw [K.inv x e]; decide)]
  congr 2
  refine (flat_congr fun x hx => ?_).trans (flat_one l)
  unfold codeS
  rcases K.all x with e | e | e
  · rw [e]; split <;> rfl
  · rw [if_pos (e ▸ .head _)]
  · rw [if_pos (List.mem_cons_of_mem _ (by rw [List.append_nil, List.mem_reverse]; exact e))]
theorem UU_free {code : Nat → List Nat} {es : List (List Nat × List Nat)} (K : Cod code es) {T : List Nat} (hT : 38 ∉ T) : UU es T = T := by
  have := UU_cut K [] hT (.inl rfl)
  simpa using this

/-- a word's tail has no & -/
theorem tail_free {w : List Nat} (h : okCode w) {k : Nat} (hk : 1 ≤ k) : 38 ∉ w.drop k := by
  obtain ⟨j, rfl⟩ : ∃ j, k = j + 1 := ⟨k - 1, by omega⟩
  rcases h with ⟨u, rfl, h1, h2⟩ | ⟨c, rfl, h1⟩
  · rw [List.drop_succ_cons]
    intro hm
    have := List.mem_of_mem_drop hm
    simp [h2] at this
  · simp
/-- a word's head -/
theorem head_is {w : List Nat} (h : okCode w) {k : Nat} (hk : k < w.length) : isHead (w.take k) := by
  rcases h with ⟨u, rfl, h1, h2⟩ | ⟨c, rfl, h1⟩
  · cases k with
    | zero => exact .inl rfl
    | succ k =>
      refine .inr ⟨u.take k, ?_, fun q => h1 (List.mem_of_mem_take q), fun q => h2 (List.mem_of_mem_take q)⟩
      simp only [List.length_cons, List.length_append, List.length_singleton] at hk
      rw [List.take_succ_cons, List.take_append_of_le_length (by simp at hk; omega)]
  · have : k = 0 := by simpa using hk
    subst this
    exact .inl rfl
theorem ok_len {w : List Nat} (h : okCode w) : 1 ≤ w.length := by
  rcases h with ⟨u, rfl, _⟩ | ⟨c, rfl, _⟩ <;> simp
end Mine

end

section
open PySem
namespace Mine

/-! where the signs' writings begin and end -/
noncomputable def posn (code : Nat → List Nat) (l : List Nat) (k : Nat) : Nat := ((l.take k).flatMap code).length
section
variable {code : Nat → List Nat} {es : List (List Nat × List Nat)} {l : List Nat}
theorem posn_zero : posn code l 0 = 0 := by simp [posn]
theorem posn_all : posn code l l.length = (l.flatMap code).length := by rw [posn, List.take_length]
theorem flat_split (k : Nat) : l.flatMap code = (l.take k).flatMap code ++ (l.drop k).flatMap code := by
  rw [← List.flatMap_append, List.take_append_drop]
theorem posn_succ {k x : Nat} (hk : l[k]? = some x) : posn code l (k + 1) = posn code l k + (code x).length := by
  unfold posn
  rw [List.take_add_one, hk, List.flatMap_append, List.length_append]
  simp
theorem posn_step {k : Nat} : posn code l k ≤ posn code l (k + 1) := by
  cases h : l[k]? with
  | some x => rw [posn_succ h]; exact Nat.le_add_right _ _
  | none =>
    unfold posn
    rw [List.take_add_one, h]
    simp
theorem posn_mono {i j : Nat} (h : i ≤ j) : posn code l i ≤ posn code l j := by
  induction h with
  | refl => exact Nat.le_refl _
  | step _ ih => exact Nat.le_trans ih posn_step
theorem posn_le (k : Nat) : posn code l k ≤ (l.flatMap code).length := by
  rw [flat_split k, List.length_append]
  exact Nat.le_add_right _ _

theorem slice_law (K : Cod code es) {p q a b : Nat} (h1 : p ≤ q) (h2 : q ≤ (l.flatMap code).length)
    (ha : ∀ k, k ≤ l.length → (posn code l k < p ↔ k < a)) (ha2 : a ≤ l.length) (hb : ∀ k, k ≤ l.length → (posn code l k ≤ q ↔ k ≤ b)) (hb2 : b ≤ l.length) :
    UU es (((l.flatMap code).take q).drop p) = if a ≤ b then ((l.flatMap code).take (posn code l a)).drop p ++ (l.take b).drop a ++ ((l.flatMap code).take q).drop (posn code l b) else ((l.flatMap code).take q).drop p := by
  have hpa : p ≤ posn code l a := Nat.not_lt.mp fun h => Nat.lt_irrefl _ ((ha a ha2).mp h)
  have hqb : posn code l b ≤ q := (hb b hb2).mpr (Nat.le_refl _)
  by_cases hab : a ≤ b
  · rw [if_pos hab]
    have e1 : (l.flatMap code).take (posn code l a) = (l.take a).flatMap code := by
      rw [flat_split a, posn, List.take_left]
    have e2 : ((l.flatMap code).take q).drop (posn code l b) = ((l.drop b).flatMap code).take (q - posn code l b) := by
      rw [List.drop_take, flat_split b, posn, List.drop_left]
    have hT : 38 ∉ ((l.take a).flatMap code).drop p := by
      cases a with
      | zero => simp
      | succ a =>
        have hlt : a < l.length := ha2
        have hp : posn code l a < p := (ha a (Nat.le_of_lt hlt)).mpr (Nat.lt_succ_self _)
        rw [List.take_add_one, List.getElem?_eq_getElem hlt, List.flatMap_append, List.drop_append, List.drop_eq_nil_of_le (Nat.le_of_lt hp)]
        show 38 ∉ List.drop (p - posn code l a) ([l[a]].flatMap code)
        rw [List.flatMap_cons, List.flatMap_nil, List.append_nil]
        exact tail_free (K.ok _) (by omega)
    have hR : isHead (((l.drop b).flatMap code).take (q - posn code l b)) := by
      rcases Nat.lt_or_ge b l.length with hlt | hge
      · have hq : q < posn code l (b + 1) := Nat.not_le.mp fun h => Nat.lt_irrefl _ ((hb (b + 1) hlt).mp h)
        rw [posn_succ (List.getElem?_eq_getElem hlt)] at hq
        have hk : q - posn code l b < (code l[b]).length := by omega
        rw [List.drop_eq_getElem_cons hlt, List.flatMap_cons, List.take_append_of_le_length (Nat.le_of_lt hk)]
        exact head_is (K.ok _) hk
      · rw [List.drop_eq_nil_of_le hge]
        exact .inl (by simp)
    have e3 : ((l.flatMap code).take q).drop p = ((l.take a).flatMap code).drop p ++ (((l.take b).drop a).flatMap code ++ ((l.drop b).flatMap code).take (q - posn code l b)) := by
      have e4 : (l.take b).flatMap code = (l.take a).flatMap code ++ ((l.take b).drop a).flatMap code := by
        have : l.take b = l.take a ++ (l.take b).drop a := by
          have := (List.take_append_drop a (l.take b)).symm
          rwa [List.take_take, Nat.min_eq_left hab] at this
        rw [← List.flatMap_append, ← this]
      have e5 : (l.flatMap code).take q = (l.take b).flatMap code ++ ((l.drop b).flatMap code).take (q - posn code l b) := by
        rw [flat_split b, List.take_append, List.take_of_length_le hqb]
        rfl
      rw [e5, e4, List.append_assoc, List.drop_append_of_le_length hpa]
    rw [e1, e2, e3, UU_cut K _ hT hR, List.append_assoc]
  · rw [if_neg hab]
    have hba : b < a := Nat.not_le.mp hab
    have hlt : b < l.length := Nat.lt_of_lt_of_le hba ha2
    have hp : posn code l b < p := (ha b hb2).mpr hba
    have hq : q < posn code l (b + 1) := Nat.not_le.mp fun h => Nat.lt_irrefl _ ((hb (b + 1) hlt).mp h)
    rw [posn_succ (List.getElem?_eq_getElem hlt)] at hq
    refine UU_free K ?_
    have e5 : (l.flatMap code).take q = (l.take b).flatMap code ++ (code l[b]).take (q - posn code l b) := by
      rw [flat_split b, List.take_append, List.take_of_length_le hqb, List.drop_eq_getElem_cons hlt, List.flatMap_cons, List.take_append_of_le_length (by show q - posn code l b ≤ _; omega)]
      rfl
    have e6 : ((l.flatMap code).take q).drop p = ((code l[b]).take (q - posn code l b)).drop (p - posn code l b) := by
      rw [e5, List.drop_append, List.drop_eq_nil_of_le (Nat.le_of_lt hp)]
      rfl
    rw [e6, List.drop_take]
    exact fun hm => tail_free (K.ok l[b]) (k := p - posn code l b) (by omega) (List.mem_of_mem_take hm)
end
end Mine

end

section
open PySem
namespace Mine

theorem count_down {P : Nat → Bool} (h : ∀ i j, i ≤ j → P j = true → P i = true) : ∀ n : Nat, ((List.range n).filter P).length ≤ n ∧ ∀ k, k < n → (P k = true ↔ k < ((List.range n).filter P).length)
  | 0 => ⟨Nat.le_refl _, fun k hk => absurd hk (Nat.not_lt_zero _)⟩
  | n + 1 => by
    obtain ⟨h1, h2⟩ := count_down h n
    rw [List.range_succ, List.filter_append, List.length_append]
    cases hp : P n with
    | false =>
      have e : ([n].filter P).length = 0 := by simp [hp]
      rw [e, Nat.add_zero]
      refine ⟨Nat.le_succ_of_le h1, fun k hk => ?_⟩
      rcases Nat.lt_or_ge k n with q | q
      · exact h2 k q
      · obtain rfl : k = n := by omega
        rw [hp]
        exact ⟨fun z => (Bool.noConfusion z), fun z => absurd z (by omega)⟩
    | true =>
      have e : ([n].filter P).length = 1 := by simp [hp]
      have hall : ((List.range n).filter P).length = n := by
        rw [List.filter_eq_self.mpr fun k hk => h k n (Nat.le_of_lt (List.mem_range.mp hk)) hp, List.length_range]
      rw [e, hall]
      refine ⟨Nat.le_refl _, fun k hk => ⟨fun _ => hk, fun _ => h k n (by omega) hp⟩⟩

noncomputable def code4 (x : Nat) : List Nat := if x = 34 then lit "&quot;" else code3 x
theorem E4_code (l : List Nat) : replace (lit "\"") (lit "&quot;") (E3 l) = l.flatMap code4 := by
  rw [E3_code, show lit "\"" = [34] from rfl, replace_one, flat_flat]
  refine flat_congr fun x _ => ?_
  unfold code4 code3
  by_cases h0 : x = 34
  · subst h0; decide
  · by_cases h1 : x = 38
    · subst h1; decide
    · by_cases h2 : x = 62
      · subst h2; decide
      · by_cases h3 : x = 60
        · subst h3; decide
        · simp [h0, h1, h2, h3]
theorem one4 {x : Nat} (h1 : x ≠ 34) (h5 : x ≠ 38) (h6 : x ≠ 62) (h7 : x ≠ 60) : code4 x = [x] := by simp [code4, code3, h1, h5, h6, h7]
theorem ok4 (x : Nat) : okCode (code4 x) := by
  refine cases7 (P := fun x => okCode (code4 x)) (.inl w_quot) (.inr ⟨10, rfl, by decide⟩) (.inr ⟨13, rfl, by decide⟩) (.inr ⟨9, rfl, by decide⟩) (.inl w_amp) (.inl w_gt) (.inl w_lt) (fun x h1 _ _ _ h5 h6 h7 => .inr ⟨x, one4 h1 h5 h6 h7, h5⟩) x
theorem inv4 {w z : List Nat} (hw : isWord w) (h : ∀ x ∈ [34, 10, 13, 9, 38, 62, 60], code4 x = w → z = [x]) (x : Nat) : code4 x = w → z = [x] :=
  cases7 (P := fun x => code4 x = w → z = [x]) (h 34 (by decide)) (h 10 (by decide)) (h 13 (by decide)) (h 9 (by decide)) (h 38 (by decide)) (h 62 (by decide)) (h 60 (by decide)) (fun x h1 _ _ _ h5 h6 h7 e => (no_one hw ((one4 h1 h5 h6 h7).symm.trans e)).elim) x

noncomputable def tq : List (List Nat × List Nat) := [(lit "&quot;", lit "\"")]
noncomputable def tw : List (List Nat × List Nat) := [(lit "&#10;", lit "\n"), (lit "&#13;", lit "\r"), (lit "&#9;", lit "\t")]
theorem cod3 : Cod code3 [] where
  amp := by rintro x rfl; rfl
  ok := ok3
  inv := fun x e => inj1 (inv3 (z := [38]) w_amp (by decide) x e)
  tab := by
    intro p hp
    simp only [List.mem_cons, List.not_mem_nil, or_false] at hp
    rcases hp with rfl | rfl
    · exact ⟨w_lt, by decide, inv3 w_lt (by decide)⟩
    · exact ⟨w_gt, by decide, inv3 w_gt (by decide)⟩
  all := fun x => cases7 (P := fun x => code3 x = [x] ∨ code3 x = Mine.amp ∨ code3 x ∈ ((lit "&lt;", lit "<") :: (lit "&gt;", lit ">") :: []).map (·.1)) (by decide) (by decide) (by decide) (by decide) (by decide) (by decide) (by decide) (fun x _ _ _ _ h5 h6 h7 => .inl (one3 h5 h6 h7)) x
theorem cod4 : Cod code4 tq where
  amp := by rintro x rfl; rfl
  ok := ok4
  inv := fun x e => inj1 (inv4 (z := [38]) w_amp (by decide) x e)
  tab := by
    intro p hp
    simp only [tq, List.mem_cons, List.not_mem_nil, or_false] at hp
    rcases hp with rfl | rfl | rfl
    · exact ⟨w_lt, by decide, inv4 w_lt (by decide)⟩
    · exact ⟨w_gt, by decide, inv4 w_gt (by decide)⟩
    · exact ⟨w_quot, by decide, inv4 w_quot (by decide)⟩
  all := fun x => cases7 (P := fun x => code4 x = [x] ∨ code4 x = Mine.amp ∨ code4 x ∈ ((lit "&lt;", lit "<") :: (lit "&gt;", lit ">") :: tq).map (·.1)) (by decide) (by decide) (by decide) (by decide) (by decide) (by decide) (by decide) (fun x h1 _ _ _ h5 h6 h7 => .inl (one4 h1 h5 h6 h7)) x
theorem cod6 : Cod code6 tw where
  amp := by rintro x rfl; rfl
  ok := ok6
  inv := fun x e => inj1 (inv6 (z := [38]) w_amp (by decide) x e)
  tab := by
    intro p hp
    simp only [tw, List.mem_cons, List.not_mem_nil, or_false] at hp
    rcases hp with rfl | rfl | rfl | rfl | rfl
    · exact ⟨w_lt, by decide, inv6 w_lt (by decide)⟩
    · exact ⟨w_gt, by decide, inv6 w_gt (by decide)⟩
    · exact ⟨w_10, by decide, inv6 w_10 (by decide)⟩
    · exact ⟨w_13, by decide, inv6 w_13 (by decide)⟩
    · exact ⟨w_9, by decide, inv6 w_9 (by decide)⟩
  all := fun x => cases7 (P := fun x => code6 x = [x] ∨ code6 x = Mine.amp ∨ code6 x ∈ ((lit "&lt;", lit "<") :: (lit "&gt;", lit ">") :: tw).map (·.1)) (by decide) (by decide) (by decide) (by decide) (by decide) (by decide) (by decide) (fun x h1 h2 h3 h4 h5 h6 h7 => .inl (one6 h2 h3 h4 h5 h6 h7)) x
theorem cod7 : Cod code7 (tw ++ tq) where
  amp := by rintro x rfl; rfl
  ok := ok7
  inv := fun x e => inj1 (inv7 (z := [38]) w_amp (by decide) x e)
  tab := by
    intro p hp
    simp only [tw, tq, List.cons_append, List.nil_append, List.mem_cons, List.not_mem_nil, or_false] at hp
    rcases hp with rfl | rfl | rfl | rfl | rfl | rfl
    · exact ⟨w_lt, by decide, inv7 w_lt (by decide)⟩
    · exact ⟨w_gt, by decide, inv7 w_gt (by decide)⟩
    · exact ⟨w_10, by decide, inv7 w_10 (by decide)⟩
    · exact ⟨w_13, by decide, inv7 w_13 (by decide)⟩
    · exact ⟨w_9, by decide, inv7 w_9 (by decide)⟩
    · exact ⟨w_quot, by decide, inv7 w_quot (by decide)⟩
  all := fun x => cases7 (P := fun x => code7 x = [x] ∨ code7 x = Mine.amp ∨ code7 x ∈ ((lit "&lt;", lit "<") :: (lit "&gt;", lit ">") :: (tw ++ tq)).map (·.1)) (by decide) (by decide) (by decide) (by decide) (by decide) (by decide) (by decide) (fun x h1 h2 h3 h4 h5 h6 h7 => .inl (one7 h1 h2 h3 h4 h5 h6 h7)) x

/-- the sizes that the law writes -/
noncomputable def sz3 : List (List Nat × V) := [(lit "&", .int 5), (lit "<", .int 4), (lit ">", .int 4)]
noncomputable def szq : List (List Nat × V) := [(lit "\"", .int 6)]
noncomputable def sz6 : List (List Nat × V) := [(lit "&", .int 5), (lit "<", .int 4), (lit ">", .int 4), (lit "\n", .int 5), (lit "\r", .int 5), (lit "\t", .int 4)]
noncomputable def Siz (code : Nat → List Nat) (sz : List (List Nat × V)) : Prop := ∀ x, (keyIn [x] sz).getD (.int 1) = .int ((code x).length : Nat)
theorem key_none {x : Nat} : ∀ {sz : List (List Nat × V)}, (∀ e ∈ sz, e.1 ≠ [x]) → keyIn [x] sz = none
  | [], _ => rfl
  | e :: r, h => by
    have h1 : (e.1 == [x]) = false := beq_eq_false_iff_ne.mpr (h e (.head _))
    have h2 := key_none (sz := r) fun q hq => h q (.tail _ hq)
    unfold keyIn at h2 ⊢
    rw [List.find?_cons, h1]
    exact h2
theorem siz_other {x : Nat} {w : List Nat} {sz : List (List Nat × V)} (h : ∀ e ∈ sz, e.1 ≠ [x]) (hw : w = [x]) : (keyIn [x] sz).getD (.int 1) = .int (w.length : Nat) := by
  rw [key_none h, hw]; rfl
theorem ne1 {s : String} {c x : Nat} (hs : lit s = [c]) (h : x ≠ c) : lit s ≠ [x] := by
  rw [hs]
  intro e
  exact h (by simpa using e.symm)
theorem siz3 : Siz code3 sz3 := fun x => by
  refine cases7 (P := fun x => (keyIn [x] sz3).getD (.int 1) = .int ((code3 x).length : Nat)) rfl rfl rfl rfl rfl rfl rfl (fun x h1 h2 h3 h4 h5 h6 h7 => siz_other ?_ (one3 h5 h6 h7)) x
  intro e he
  simp only [sz3, List.mem_cons, List.not_mem_nil, or_false] at he
  rcases he with rfl | rfl | rfl
  · exact ne1 rfl h5
  · exact ne1 rfl h7
  · exact ne1 rfl h6
theorem siz4 : Siz code4 (sz3 ++ szq) := fun x => by
  refine cases7 (P := fun x => (keyIn [x] (sz3 ++ szq)).getD (.int 1) = .int ((code4 x).length : Nat)) rfl rfl rfl rfl rfl rfl rfl (fun x h1 h2 h3 h4 h5 h6 h7 => siz_other ?_ (one4 h1 h5 h6 h7)) x
  intro e he
  simp only [sz3, szq, List.cons_append, List.nil_append, List.mem_cons, List.not_mem_nil, or_false] at he
  rcases he with rfl | rfl | rfl | rfl
  · exact ne1 rfl h5
  · exact ne1 rfl h7
  · exact ne1 rfl h6
  · exact ne1 rfl h1
theorem siz6 : Siz code6 sz6 := fun x => by
  refine cases7 (P := fun x => (keyIn [x] sz6).getD (.int 1) = .int ((code6 x).length : Nat)) rfl rfl rfl rfl rfl rfl rfl (fun x h1 h2 h3 h4 h5 h6 h7 => siz_other ?_ (one6 h2 h3 h4 h5 h6 h7)) x
  intro e he
  simp only [sz6, List.mem_cons, List.not_mem_nil, or_false] at he
  rcases he with rfl | rfl | rfl | rfl | rfl | rfl
  · exact ne1 rfl h5
  · exact ne1 rfl h7
  · exact ne1 rfl h6
  · exact ne1 rfl h2
  · exact ne1 rfl h3
  · exact ne1 rfl h4
theorem siz7 : Siz code7 (sz6 ++ szq) := fun x => by
  refine cases7 (P := fun x => (keyIn [x] (sz6 ++ szq)).getD (.int 1) = .int ((code7 x).length : Nat)) rfl rfl rfl rfl rfl rfl rfl (fun x h1 h2 h3 h4 h5 h6 h7 => siz_other ?_ (one7 h1 h2 h3 h4 h5 h6 h7)) x
  intro e he
  simp only [sz6, szq, List.cons_append, List.nil_append, List.mem_cons, List.not_mem_nil, or_false] at he
  rcases he with rfl | rfl | rfl | rfl | rfl | rfl | rfl
  · exact ne1 rfl h5
  · exact ne1 rfl h7
  · exact ne1 rfl h6
  · exact ne1 rfl h2
  · exact ne1 rfl h3
  · exact ne1 rfl h4
  · exact ne1 rfl h1
end Mine

end

section
open PySem
namespace Mine

/-- the guards of a chain of replaces -/
noncomputable def okRep : List (List Nat × List Nat) → List Nat → Prop
  | [], _ => True
  | e :: r, l => e.1 ≠ [] ∧ l.length + (l.length + 1) * e.2.length ≤ LIM ∧ okRep r (replace e.1 e.2 l)
noncomputable def encd (es : List (List Nat × List Nat)) : List (List Nat × V) := es.map fun e => (e.1, V.str e.2)
noncomputable def fold (es : List (List Nat × List Nat)) (l : List Nat) : List Nat := es.foldl (fun l e => replace e.1 e.2 l) l
theorem reps_is {dd : Option V} : ∀ (es : List (List Nat × List Nat)) (l : List Nat) (x y : Option V), okRep es l → ∃ x' y', reps 0 2 3 (encd es) [some (.str l), dd, x, y] = some [some (.str (fold es l)), dd, x', y']
  | [], l, x, y, _ => ⟨x, y, rfl⟩
  | e :: r, l, x, y, ⟨h1, h2, h3⟩ => by
    obtain ⟨x', y', ih⟩ := reps_is r (replace e.1 e.2 l) (some (.str e.1)) (some (.str e.2)) h3
    refine ⟨x', y', ?_⟩
    rw [show fold (e :: r) l = fold r (replace e.1 e.2 l) from rfl, ← ih]
    show reps 0 2 3 ((e.1, V.str e.2) :: encd r) _ = _
    rw [reps]
    show (if e.1 ≠ [] ∧ l.length + (l.length + 1) * e.2.length ≤ LIM then _ else _) = _
    rw [if_pos ⟨h1, h2⟩]
    rfl
theorem fold_append (a b : List (List Nat × List Nat)) (l : List Nat) : fold (a ++ b) l = fold b (fold a l) := List.foldl_append
theorem okRep_append {b : List (List Nat × List Nat)} : ∀ {a : List (List Nat × List Nat)} {l : List Nat}, okRep (a ++ b) l → okRep a l ∧ okRep b (fold a l)
  | [], _, h => ⟨trivial, h⟩
  | e :: a, l, ⟨h1, h2, h3⟩ => ⟨⟨h1, h2, (okRep_append h3).1⟩, (okRep_append h3).2⟩
/-- single signs put as words: nothing gets shorter -/
theorem grow_one {c : Nat} {z l : List Nat} (hz : 1 ≤ z.length) : l.length ≤ (replace [c] z l).length := by
  rw [replace_one]
  exact flat_ge (fun x => by split <;> simp [hz]) l
theorem fold_grow : ∀ {es : List (List Nat × List Nat)} {l : List Nat}, (∀ e ∈ es, (∃ c, e.1 = [c]) ∧ 1 ≤ e.2.length ∧ e.2.length ≤ 6) → l.length ≤ (fold es l).length
  | [], l, _ => Nat.le_refl _
  | e :: r, l, h => by
    obtain ⟨⟨c, hc⟩, h1, _⟩ := h e (.head _)
    have := fold_grow (es := r) (l := replace e.1 e.2 l) fun q hq => h q (.tail _ hq)
    have h2 := grow_one (c := c) (l := l) h1
    rw [hc] at this
    show l.length ≤ (fold r (replace e.1 e.2 l)).length
    rw [hc]; omega
theorem okRep_grow {K : Nat} (hK : 7 * K + 6 ≤ LIM) : ∀ {es : List (List Nat × List Nat)} {l : List Nat}, (∀ e ∈ es, (∃ c, e.1 = [c]) ∧ 1 ≤ e.2.length ∧ e.2.length ≤ 6) → (fold es l).length ≤ K → okRep es l
  | [], _, _, _ => trivial
  | e :: r, l, h, hl => by
    have h0 := fold_grow (l := l) h
    obtain ⟨⟨c, hc⟩, h1, h2⟩ := h e (.head _)
    refine ⟨by rw [hc]; simp, ?_, okRep_grow hK (fun q hq => h q (.tail _ hq)) hl⟩
    have : (l.length + 1) * e.2.length ≤ (l.length + 1) * 6 := Nat.mul_le_mul_left _ h2
    omega
theorem replace_le {y z : List Nat} (hy : y ≠ []) (hz : z.length ≤ y.length) : ∀ (k : Nat) (l : List Nat), l.length ≤ k → (replace y z l).length ≤ l.length
  | 0, l, h => by
    obtain rfl : l = [] := List.length_eq_zero_iff.mp (Nat.le_zero.mp h)
    exact Nat.le_refl _
  | k + 1, [], _ => Nat.le_refl _
  | k + 1, c :: r, h => by
    rw [replace_cons hy]
    split
    · rename_i hp
      have := replace_le hy hz k ((c :: r).drop y.length) (by
        have : 1 ≤ y.length := by cases y with | nil => exact absurd rfl hy | cons => simp
        simp at h ⊢; omega)
      obtain ⟨t, ht⟩ := isP_iff.mp hp
      have hl := congrArg List.length ht
      rw [List.length_append] at hl
      rw [List.length_append]
      rw [List.length_drop] at this
      omega
    · have := replace_le hy hz k r (by simpa using h)
      simp only [List.length_cons]
      omega
theorem okRep_shrink : ∀ {es : List (List Nat × List Nat)} {l : List Nat}, (∀ e ∈ es, e.1 ≠ [] ∧ e.2.length ≤ e.1.length ∧ e.2.length ≤ 1) → l.length ≤ 8000000 → okRep es l
  | [], _, _, _ => trivial
  | e :: r, l, h, hl => by
    obtain ⟨h1, h2, h3⟩ := h e (.head _)
    have h4 := replace_le h1 h2 _ l (Nat.le_refl _)
    have : (l.length + 1) * e.2.length ≤ (l.length + 1) * 1 := Nat.mul_le_mul_left _ h3
    exact ⟨h1, by unfold LIM; omega, okRep_shrink (fun q hq => h q (.tail _ hq)) (by omega)⟩

noncomputable def pre3 : List (List Nat × List Nat) := [(lit "&", lit "&amp;"), (lit ">", lit "&gt;"), (lit "<", lit "&lt;")]
noncomputable def undo (es : List (List Nat × List Nat)) : List (List Nat × List Nat) := [(lit "&lt;", lit "<"), (lit "&gt;", lit ">")] ++ es ++ [(lit "&amp;", lit "&")]
theorem fold_pre3 (l : List Nat) : fold pre3 l = E3 l := rfl
theorem fold_undo (es : List (List Nat × List Nat)) (l : List Nat) : fold (undo es) l = UU es l := by
  unfold undo; rw [fold_append, fold_append]; rfl

section
variable {X : Hp} {d ep : Nat} {h : Hp} {dv : V} {es : List (List Nat × List Nat)} {l : List Nat} {m : M}
theorem e_repl {y z : String} {e : ME} {p1 p2 p3 p : Pos} {h1 : Hp} (a : Ev X d e m h (.str l) h1) (hy : lit y ≠ [] ∧ l.length + (l.length + 1) * (lit z).length ≤ LIM) : Ev X d (.meth .replace e p1 (.cons (.cst (.str y) p2) (.cons (.cst (.str z) p3) .nil)) p) m h (.str (replace (lit y) (lit z) l)) h1 :=
  e_meth a rfl (a_cons e_cst (a_cons e_cst a_nil)) (by
    show (if lit y ≠ [] ∧ l.length + (l.length + 1) * (lit z).length ≤ LIM then _ else _) = _
    rw [if_pos hy])
theorem c_rep (ho : obj X h dv = some (.dict true ep (encd es))) (hg : okRep es l) : Cl X (d + 1) 0 [.str l, dv] h (.str (fold es l)) h := by
  obtain ⟨x', y', e⟩ := reps_is (dd := some dv) es l none none hg
  refine c_is (fn := ⟨2, 4, b_dict_replace_saxutils, none⟩) (m1 := [some (.str (fold es l)), some dv, x', y']) rfl rfl (x_cons (m1 := [some (.str (fold es l)), some dv, x', y']) (h1 := h) ⟨0, fun n _ => ?_⟩ (x_ret (s_ret (e_loc rfl))))
  rw [stepS]
  show ((some dv).bind _) = _
  rw [Option.bind_some, ho]
  show Option.map _ (reps 0 2 3 (encd es) [some (.str l), some dv, none, none]) = _
  rw [e]; rfl
theorem truth_dict {rep : Bool} (ho : obj X h dv = some (.dict rep ep (encd es))) : truth X h dv = some (!es.isEmpty) := by
  have key : (obj X h dv).bind O.full = some (!es.isEmpty) := by rw [ho]; cases es <;> rfl
  cases dv <;> first | exact key | (cases ho)
theorem x_escape (ho : obj X h dv = some (.dict true ep (encd es))) (hg : okRep (pre3 ++ es) l) : Ex X (d + 1) b_escape [some (.str l), some dv] h (.ret (.str (fold (pre3 ++ es) l))) [some (.str (fold (pre3 ++ es) l)), some dv] h := by
  obtain ⟨g1, g2⟩ := okRep_append hg
  obtain ⟨g3, g4, g5, g6, g7, g8, _⟩ := g1
  rw [fold_append, fold_pre3]
  refine x_cons (s_asg (e_repl (e_loc rfl) ⟨g3, g4⟩)) (x_cons (s_asg (e_repl (e_loc rfl) ⟨g5, g6⟩)) (x_cons (s_asg (e_repl (e_loc rfl) ⟨g7, g8⟩)) ?_))
  have ht := truth_dict ho
  cases es with
  | nil => exact x_cons (s_ite_f (e_loc rfl) ht x_nil) (x_ret (s_ret (e_loc rfl)))
  | cons e r => exact x_cons (s_ite_t (e_loc rfl) ht (x_cons (s_asg (e_call (a_cons (e_loc rfl) (a_cons (e_loc rfl) a_nil)) (c_rep ho g2))) x_nil)) (x_ret (s_ret (e_loc rfl)))
theorem x_unescape (ho : obj X h dv = some (.dict true ep (encd es))) (hg : okRep (undo es) l) : ∃ m', Ex X (d + 1) b_unescape [some (.str l), some dv] h (.ret (.str (UU es l))) m' h := by
  rw [← fold_undo]
  unfold undo at hg ⊢
  obtain ⟨g1, g9, g10, _⟩ := okRep_append hg
  obtain ⟨⟨g3, g4, g5, g6, _⟩, g2⟩ := okRep_append g1
  rw [fold_append, fold_append]
  rw [fold_append] at g10
  have ht := truth_dict ho
  cases es with
  | nil =>
    exact ⟨_, x_cons (s_asg (e_repl (e_loc rfl) ⟨g3, g4⟩)) (x_cons (s_asg (e_repl (e_loc rfl) ⟨g5, g6⟩)) (x_cons (s_ite_f (e_loc rfl) ht x_nil) (x_ret (s_ret (e_repl (e_loc rfl) ⟨g9, g10⟩)))))⟩
  | cons e r =>
    exact ⟨_, x_cons (s_asg (e_repl (e_loc rfl) ⟨g3, g4⟩)) (x_cons (s_asg (e_repl (e_loc rfl) ⟨g5, g6⟩)) (x_cons (s_ite_t (e_loc rfl) ht (x_cons (s_asg (e_call (a_cons (e_loc rfl) (a_cons (e_loc rfl) a_nil)) (c_rep ho g2))) x_nil)) (x_ret (s_ret (e_repl (e_loc rfl) ⟨g9, g10⟩)))))⟩
end

/-- the objects that stand before the law's call -/
structure XOk (X : Hp) (xs : List Int) : Prop where
  s : X[0]? = some (.list (xs.map fun i => V.int i))
  e : X[1]? = some (.dict true 0 [])
  u : X[2]? = some (.dict true 0 [])
  q : X[3]? = some (.dict true 0 [])

section
variable {X : Hp} {xs : List Int} {d : Nat} {h : Hp} {l : List Nat}
theorem pre3_ok : ∀ e ∈ pre3, (∃ c, e.1 = [c]) ∧ 1 ≤ e.2.length ∧ e.2.length ≤ 6 := by
  intro e he
  simp only [pre3, List.mem_cons, List.not_mem_nil, or_false] at he
  rcases he with rfl | rfl | rfl <;> exact ⟨⟨_, rfl⟩, by decide, by decide⟩
theorem whites_ok : ∀ e ∈ pre3 ++ whites, (∃ c, e.1 = [c]) ∧ 1 ≤ e.2.length ∧ e.2.length ≤ 6 := by
  intro e he
  rcases List.mem_append.mp he with he | he
  · exact pre3_ok e he
  · simp only [whites, List.mem_cons, List.not_mem_nil, or_false] at he
    rcases he with rfl | rfl | rfl <;> exact ⟨⟨_, rfl⟩, by decide, by decide⟩
theorem c_escape (O : XOk X xs) (hl : l.length ≤ 300000) : Cl X (d + 2) 1 [.str l] h (.str (E3 l)) h := by
  have := x_escape (X := X) (d := d) (h := h) (dv := .ext 1) (es := []) (ep := 0) (l := l) O.e (okRep_grow (K := 1500000) (by unfold LIM; omega) (es := pre3 ++ []) pre3_ok (by
    show (E3 l).length ≤ _
    have := E3_len l; omega))
  exact c_dflt (fn := ⟨2, 2, b_escape, some 1⟩) rfl rfl rfl this
theorem c_unescape (O : XOk X xs) (hl : l.length ≤ 8000000) : Cl X (d + 2) 2 [.str l] h (.str (UU [] l)) h := by
  obtain ⟨m', this⟩ := x_unescape (X := X) (d := d) (h := h) (dv := .ext 2) (es := []) (ep := 0) (l := l) O.u (okRep_shrink (fun e he => by
    simp only [undo, List.append_nil, List.cons_append, List.nil_append, List.mem_cons, List.not_mem_nil, or_false] at he
    rcases he with rfl | rfl | rfl <;> exact ⟨by decide, by decide, by decide⟩) hl)
  exact c_dflt (fn := ⟨2, 2, b_unescape, some 2⟩) rfl rfl rfl this
noncomputable def tabq : List (List Nat × List Nat) := [(lit "\"", lit "&quot;")]
theorem escq_ok : ∀ e ∈ pre3 ++ tabq, (∃ c, e.1 = [c]) ∧ 1 ≤ e.2.length ∧ e.2.length ≤ 6 := by
  intro e he
  rcases List.mem_append.mp he with he | he
  · exact pre3_ok e he
  · simp only [tabq, List.mem_cons, List.not_mem_nil, or_false] at he
    subst he
    exact ⟨⟨_, rfl⟩, by decide, by decide⟩
/-- escape with an empty table of its own -/
theorem c_escape0 {dv : V} {ep : Nat} (ho : obj X h dv = some (.dict true ep [])) (hl : l.length ≤ 300000) : Cl X (d + 2) 1 [.str l, dv] h (.str (l.flatMap code3)) h := by
  have := x_escape (X := X) (d := d) (h := h) (dv := dv) (es := []) (ep := ep) (l := l) ho (okRep_grow (K := 1500000) (by unfold LIM; omega) (es := pre3 ++ []) pre3_ok (by
    show (E3 l).length ≤ _
    have := E3_len l; omega))
  rw [show fold (pre3 ++ []) l = E3 l from rfl, E3_code] at this
  exact c_is (fn := ⟨2, 2, b_escape, some 1⟩) rfl rfl this
/-- escape with a reference for the quotation mark -/
theorem c_escapeq {dv : V} {ep : Nat} (ho : obj X h dv = some (.dict true ep (encd tabq))) (hl : l.length ≤ 200000) : Cl X (d + 2) 1 [.str l, dv] h (.str (l.flatMap code4)) h := by
  have e4 : fold (pre3 ++ tabq) l = l.flatMap code4 := by rw [fold_append, fold_pre3, ← E4_code]; rfl
  have := x_escape (X := X) (d := d) (h := h) (dv := dv) (es := tabq) (ep := ep) (l := l) ho (okRep_grow (K := 1500000) (by unfold LIM; omega) (es := pre3 ++ tabq) escq_ok (by
    rw [e4]
    have := flat_len (f := code4) (k := 6) (fun x => cases7 (P := fun x => (code4 x).length ≤ 6) (by decide) (by decide) (by decide) (by decide) (by decide) (by decide) (by decide) (fun x h1 h2 h3 h4 h5 h6 h7 => by rw [one4 h1 h5 h6 h7]; simp) x) l
    omega))
  rw [e4] at this
  exact c_is (fn := ⟨2, 2, b_escape, some 1⟩) rfl rfl this
theorem undo_ok {es : List (List Nat × List Nat)} (h : ∀ e ∈ es, e.1 ≠ [] ∧ e.2.length ≤ e.1.length ∧ e.2.length ≤ 1) : ∀ e ∈ undo es, e.1 ≠ [] ∧ e.2.length ≤ e.1.length ∧ e.2.length ≤ 1 := by
  intro e he
  simp only [undo, List.cons_append, List.nil_append, List.mem_cons, List.mem_append, List.not_mem_nil, or_false] at he
  rcases he with rfl | rfl | he | rfl
  · exact ⟨by decide, by decide, by decide⟩
  · exact ⟨by decide, by decide, by decide⟩
  · exact h e he
  · exact ⟨by decide, by decide, by decide⟩
theorem tq_ok : ∀ e ∈ tq, e.1 ≠ [] ∧ e.2.length ≤ e.1.length ∧ e.2.length ≤ 1 := by
  intro e he
  simp only [tq, List.mem_cons, List.not_mem_nil, or_false] at he
  subst he
  exact ⟨by decide, by decide, by decide⟩
theorem tw_ok : ∀ e ∈ tw, e.1 ≠ [] ∧ e.2.length ≤ e.1.length ∧ e.2.length ≤ 1 := by
  intro e he
  simp only [tw, List.mem_cons, List.not_mem_nil, or_false] at he
  rcases he with rfl | rfl | rfl <;> exact ⟨by decide, by decide, by decide⟩
theorem twq_ok : ∀ e ∈ tw ++ tq, e.1 ≠ [] ∧ e.2.length ≤ e.1.length ∧ e.2.length ≤ 1 := by
  intro e he
  rcases List.mem_append.mp he with he | he
  · exact tw_ok e he
  · exact tq_ok e he
theorem c_unescape2 {dv : V} {ep : Nat} {es : List (List Nat × List Nat)} (ho : obj X h dv = some (.dict true ep (encd es))) (hes : ∀ e ∈ es, e.1 ≠ [] ∧ e.2.length ≤ e.1.length ∧ e.2.length ≤ 1) (hl : l.length ≤ 8000000) : Cl X (d + 2) 2 [.str l, dv] h (.str (UU es l)) h := by
  obtain ⟨m', this⟩ := x_unescape (X := X) (d := d) (h := h) (dv := dv) (es := es) (ep := ep) (l := l) ho (okRep_shrink (undo_ok hes) hl)
  exact c_is (fn := ⟨2, 2, b_unescape, some 2⟩) rfl rfl this
end
end Mine

end

section
open PySem
namespace Mine

theorem inStr_one {c : Nat} : ∀ l : List Nat, inStr [c] l = decide (c ∈ l)
  | [] => by simp [inStr]
  | x :: r => by
    rw [inStr, inStr_one r]
    by_cases h : c = x
    · subst h; simp [List.isPrefixOf]
    · simp [List.isPrefixOf, h]
section
variable {X : Hp} {xs : List Int} {d : Nat} {h h1 : Hp} {l x : List Nat} {m : M} {e : ME} {p p1 : Pos}
theorem e_dq (a : Ev X d e m h (.str x) h1) (hx : x.length ≤ 10000000) : Ev X d (.bin .Mod (.cst (.str "\"%s\"") p1) e p) m h (.str (34 :: (x ++ [34]))) h1 :=
  e_bin e_cst a (by
    show (if x.length ≤ 10000000 then (if lit "\"%s\"" = lit "\"%s\"" then _ else _) else _) = _
    rw [if_pos hx, if_pos rfl])
theorem e_sq (a : Ev X d e m h (.str x) h1) (hx : x.length ≤ 10000000) : Ev X d (.bin .Mod (.cst (.str "'%s'") p1) e p) m h (.str (39 :: (x ++ [39]))) h1 :=
  e_bin e_cst a (by
    show (if x.length ≤ 10000000 then (if lit "'%s'" = lit "\"%s\"" then _ else if lit "'%s'" = lit "'%s'" then _ else _) else _) = _
    rw [if_pos hx, if_neg (by decide), if_pos rfl])
theorem e_in {s : String} {c : Nat} (hc : lit s = [c]) (a : Ev X d e m h (.str x) h1) : Ev X d (.cmp .In (.cst (.str s) p1) e p) m h (.bool (decide (c ∈ x))) h1 :=
  e_cmp e_cst a (by
    show some (inStr (lit s) x) = _
    rw [hc, inStr_one])
theorem c_quoteattr (O : XOk X xs) (hl : l.length ≤ 300000) : Cl X (d + 3) 3 [.str l] h (.str (W3 l)) (h ++ [.dict true 3 (encd whites)]) := by
  have hEE : fold (pre3 ++ whites) l = EE whites l := by rw [fold_append]; rfl
  have h6 : (EE whites l).length ≤ 5 * l.length := by rw [E6_code]; exact flat_len len6 l
  have e1 : Ex X (d + 1) b_escape [some (.str l), some (.ref h.length)] (h ++ [.dict true 3 (encd whites)]) (.ret (.str (EE whites l))) [some (.str (EE whites l)), some (.ref h.length)] (h ++ [.dict true 3 (encd whites)]) := by
    have := x_escape (X := X) (d := d) (h := h ++ [.dict true 3 (encd whites)]) (dv := .ref h.length) (es := whites) (ep := 3) (l := l) (by show (h ++ [_])[h.length]? = _; simp) (okRep_grow (K := 1500000) (by unfold LIM; omega) whites_ok (by rw [hEE]; omega))
    rw [hEE] at this
    exact this
  refine c_dflt (fn := ⟨2, 2, b_quoteattr, some 3⟩) (j := 3) (m1 := [some (.str (W3 l)), some (.ref h.length)]) rfl rfl rfl ?_
  refine x_cons (s_asg (e_spread (e_loc rfl) (show obj X h (.ext 3) = some (.dict true 0 []) from O.q) rfl ⟨by decide, rfl⟩)) ?_
  refine x_cons (s_asg (e_call (a_cons (e_loc rfl) (a_cons (e_loc rfl) a_nil)) (c_is (fn := ⟨2, 2, b_escape, some 1⟩) rfl rfl e1))) ?_
  refine x_cons (m1 := [some (.str (W3 l)), some (.ref h.length)]) (h1 := h ++ [.dict true 3 (encd whites)]) ?_ (x_ret (s_ret (e_loc rfl)))
  unfold W3
  by_cases h34 : 34 ∈ EE whites l
  · rw [if_pos h34]
    refine s_ite_t (e_in (c := 34) rfl (e_loc rfl)) (by rw [decide_eq_true h34]; rfl) (x_cons (m1 := [some (.str (if 39 ∈ EE whites l then 34 :: (replace (lit "\"") (lit "&quot;") (EE whites l) ++ [34]) else 39 :: (EE whites l ++ [39]))), some (.ref h.length)]) ?_ x_nil)
    by_cases h39 : 39 ∈ EE whites l
    · rw [if_pos h39]
      have hw : (replace (lit "\"") (lit "&quot;") (EE whites l)).length ≤ 6 * l.length := by rw [E6_code, E7_code]; exact flat_len len7 l
      refine s_ite_t (e_in (c := 39) rfl (e_loc rfl)) (by rw [decide_eq_true h39]; rfl) (x_cons (s_asg (e_dq (e_repl (e_loc rfl) ⟨by decide, ?_⟩) (by omega))) x_nil)
      rw [show (lit "&quot;").length = 6 from rfl]
      unfold LIM; omega
    · rw [if_neg h39]
      exact s_ite_f (e_in (c := 39) rfl (e_loc rfl)) (by rw [decide_eq_false h39]; rfl) (x_cons (s_asg (e_sq (e_loc rfl) (by omega))) x_nil)
  · rw [if_neg h34]
    exact s_ite_f (e_in (c := 34) rfl (e_loc rfl)) (by rw [decide_eq_false h34]; rfl) (x_cons (s_asg (e_dq (e_loc rfl) (by omega))) x_nil)
end
end Mine

end

section
open PySem
namespace Mine

theorem nidx_nat {i : Int} {n : Nat} (h0 : 0 ≤ i) (h1 : i < n) : nidx i n = some i.toNat := by
  unfold nidx
  rw [if_pos h0, if_pos (by omega)]
theorem nidx_last {n : Nat} (h : 1 ≤ n) : nidx (-1) n = some (n - 1) := by
  unfold nidx
  rw [if_neg (by omega), if_pos (by omega)]
  congr 1
  omega
theorem lt_of_get {α : Type} {l : List α} {i : Nat} {v : α} (h : l[i]? = some v) : i < l.length := by
  rcases Nat.lt_or_ge i l.length with q | q
  · exact q
  · rw [List.getElem?_eq_none q] at h; cases h
theorem idx_list {X h : Hp} {k : Nat} {vs : List V} {i : Int} {v : V} (ho : h[k]? = some (.list vs)) (h0 : 0 ≤ i) (hv : vs[i.toNat]? = some v) : idxv X h (.ref k) (.int i) = some v := by
  have hlt := lt_of_get hv
  show ((h[k]?).bind fun o => idxo o i) = _
  rw [ho]
  show ((nidx i vs.length).bind fun j => vs[j]?) = _
  rw [nidx_nat h0 (by omega)]
  exact hv
theorem idx_last {X h : Hp} {k : Nat} {vs : List V} {v : V} (ho : h[k]? = some (.list vs)) (hv : vs[vs.length - 1]? = some v) : idxv X h (.ref k) (.int (-1)) = some v := by
  have hlt := lt_of_get hv
  show ((h[k]?).bind fun o => idxo o (-1)) = _
  rw [ho]
  show ((nidx (-1) vs.length).bind fun j => vs[j]?) = _
  rw [nidx_last (by omega)]
  exact hv
theorem idx_ext {X h : Hp} {k : Nat} {vs : List V} {i : Int} {v : V} (ho : X[k]? = some (.list vs)) (h0 : 0 ≤ i) (hv : vs[i.toNat]? = some v) : idxv X h (.ext k) (.int i) = some v := by
  have hlt := lt_of_get hv
  show ((X[k]?).bind fun o => idxo o i) = _
  rw [ho]
  show ((nidx i vs.length).bind fun j => vs[j]?) = _
  rw [nidx_nat h0 (by omega)]
  exact hv
theorem idx_strc {X h : Hp} {l : List Nat} {i : Int} {c : Nat} (h0 : 0 ≤ i) (hv : l[i.toNat]? = some c) : idxv X h (.str l) (.int i) = some (.str [c]) := by
  have hlt := lt_of_get hv
  show (((nidx i l.length).bind fun j => l[j]?).map fun c => V.str [c]) = _
  rw [nidx_nat h0 (by omega), Option.bind_some, hv]; rfl
theorem idx_strl {X h : Hp} {l : List Nat} {c : Nat} (hv : l[l.length - 1]? = some c) : idxv X h (.str l) (.int (-1)) = some (.str [c]) := by
  have hlt := lt_of_get hv
  show (((nidx (-1) l.length).bind fun j => l[j]?).map fun c => V.str [c]) = _
  rw [nidx_last (by omega), Option.bind_some, hv]; rfl
theorem add_str {x y : List Nat} (h : x.length + y.length ≤ LIM) : binop .Add (.str x) (.str y) = some (.str (x ++ y)) := by
  show (if x.length + y.length ≤ LIM then _ else _) = _
  rw [if_pos h]
theorem fdiv_of {x y : Int} (h0 : y ≠ 0) (h1 : y.natAbs ≤ LIM) : binop .FloorDiv (.int x) (.int y) = some (.int (x.fdiv y)) := by
  show (if y = 0 then _ else if y.natAbs ≤ LIM then _ else _) = _
  rw [if_neg h0, if_pos h1]
theorem fmod_of {x y : Int} (h0 : y ≠ 0) : binop .Mod (.int x) (.int y) = some (.int (x.fmod y)) := by
  show (if y = 0 then _ else _) = _
  rw [if_neg h0]
theorem fmod_range {x y : Int} (h : 0 < y) : 0 ≤ x.fmod y ∧ x.fmod y < y := ⟨Int.fmod_nonneg_of_pos x h, Int.fmod_lt_of_pos x h⟩
theorem append_at {h : Hp} {o : O} : (h ++ [o])[h.length]? = some o := by simp
theorem isL_of {h : Hp} {k : Nat} {vs : List V} (ho : h[k]? = some (.list vs)) : isL h k = true := by unfold isL; rw [ho]
theorem appL_of {h : Hp} {k : Nat} {vs : List V} {v : V} (ho : h[k]? = some (.list vs)) (hl : vs.length < LIM) : appL h k v = some (h.set k (.list (vs ++ [v]))) := by unfold appL; rw [ho]; exact if_pos hl
theorem set_last {h : Hp} {o o' : O} : (h ++ [o]).set h.length o' = h ++ [o'] := by simp
theorem len_ref {X h : Hp} {k : Nat} {vs : List V} (ho : h[k]? = some (.list vs)) : bcall X .len [.ref k] h = some (.int (vs.length : Nat), h) := by
  have : lenv X h (.ref k) = some (vs.length : Int) := by show ((h[k]?).bind _) = _; rw [ho]; rfl
  show Option.map _ (lenv X h (.ref k)) = _
  rw [this]; rfl
theorem len_ext {X h : Hp} {k : Nat} {vs : List V} (ho : X[k]? = some (.list vs)) : bcall X .len [.ext k] h = some (.int (vs.length : Nat), h) := by
  have : lenv X h (.ext k) = some (vs.length : Int) := by show ((X[k]?).bind _) = _; rw [ho]; rfl
  show Option.map _ (lenv X h (.ext k)) = _
  rw [this]; rfl
theorem len_str {X h : Hp} {l : List Nat} : bcall X .len [.str l] h = some (.int (l.length : Nat), h) := rfl

/-! the heap grows -/
noncomputable def Grow (h h' : Hp) : Prop := ∃ g, h' = h ++ g
theorem Grow.refl (h : Hp) : Grow h h := ⟨[], by simp⟩
theorem Grow.trans {a b c : Hp} : Grow a b → Grow b c → Grow a c
  | ⟨x, hx⟩, ⟨y, hy⟩ => ⟨x ++ y, by rw [hy, hx, List.append_assoc]⟩
theorem Grow.app {h g : Hp} : Grow h (h ++ g) := ⟨g, rfl⟩
theorem Grow.get {h h' : Hp} (w : Grow h h') {k : Nat} {o : O} (e : h[k]? = some o) : h'[k]? = some o := by
  obtain ⟨g, rfl⟩ := w
  rw [List.getElem?_append_left (lt_of_get e), e]

section
variable {X : Hp} {d : Nat}
noncomputable def sgs : List V := [.str (lit "&"), .str (lit "<"), .str (lit ">"), .str (lit "a"), .str (lit "m"), .str (lit "p"), .str (lit ";"), .str (lit "\""), .str (lit "'"), .str (lit "\n"), .str (lit "l"), .str (lit "t"), .str (lit "#"), .str (lit "1"), .str (lit "0"), .str (lit "\t"), .str (lit "g"), .str (lit "\r"), .str (lit "q")]
theorem sgs_at {j : Nat} (hj : j < 19) : ∃ c, sgs[j]? = some (.str [c]) := by
  have e : sgs = (lit "&<>amp;\"'\nlt#10\tg\rq").map fun c => V.str [c] := by decide +kernel
  have hl : j < (lit "&<>amp;\"'\nlt#10\tg\rq").length := hj
  exact ⟨_, by rw [e, List.getElem?_map, List.getElem?_eq_getElem hl]; rfl⟩
theorem c_sign {h : Hp} {i : Int} : ∃ c, Cl X (d + 1) 4 [.int i] h (.str [c]) (h ++ [.list sgs]) := by
  have h19 := fmod_range (x := i) (y := 19) (by decide)
  obtain ⟨c, hc⟩ := sgs_at (j := (i.fmod 19).toNat) (by omega)
  refine ⟨c, c_is (fn := ⟨1, 1, b_law_sign, none⟩) rfl rfl (x_ret (s_ret (e_idx (e_list (vs := sgs) ?_) (e_bin (e_loc rfl) e_cst (fmod_of (by decide))) (idx_list append_at h19.1 hc))))⟩
  exact a_cons e_cst (a_cons e_cst (a_cons e_cst (a_cons e_cst (a_cons e_cst (a_cons e_cst (a_cons e_cst (a_cons e_cst (a_cons e_cst (a_cons e_cst (a_cons e_cst (a_cons e_cst (a_cons e_cst (a_cons e_cst (a_cons e_cst (a_cons e_cst (a_cons e_cst (a_cons e_cst (a_cons e_cst a_nil))))))))))))))))))

/-- the places of the writings' ends -/
noncomputable def endl (code : Nat → List Nat) (l : List Nat) (k : Nat) : List V := (List.range (k + 1)).map fun (j : Nat) => V.int ((posn code l j : Nat) : Int)
theorem endl_len {code : Nat → List Nat} {l : List Nat} {k : Nat} : (endl code l k).length = k + 1 := by simp [endl]
theorem endl_at {code : Nat → List Nat} {l : List Nat} {k j : Nat} (hj : j ≤ k) : (endl code l k)[j]? = some (.int ((posn code l j : Nat) : Int)) := by
  unfold endl
  rw [List.getElem?_map, List.getElem?_range (Nat.lt_succ_of_le hj)]; rfl
theorem endl_last {code : Nat → List Nat} {l : List Nat} {k : Nat} : (endl code l k)[(endl code l k).length - 1]? = some (.int ((posn code l k : Nat) : Int)) := by
  rw [endl_len]
  exact endl_at (Nat.le_refl _)
theorem endl_succ {code : Nat → List Nat} {l : List Nat} {k : Nat} : endl code l (k + 1) = endl code l k ++ [.int ((posn code l (k + 1) : Nat) : Int)] := by
  unfold endl
  rw [List.range_succ, List.map_append]
  rfl
theorem get_size {h : Hp} {k : Nat} {rep : Bool} {ep : Nat} {sz : List (List Nat × V)} {code : Nat → List Nat} (hk : h[k]? = some (.dict rep ep sz)) (S : Siz code sz) (c : Nat) : meth X .get (.ref k) [.str [c], .int 1] h = some (.int ((code c).length : Nat), h) := by
  show (match h[k]? with | some (O.dict _ _ es) => some ((keyIn [c] es).getD (.int 1), h) | _ => none) = _
  rw [hk]
  show some ((keyIn [c] sz).getD (.int 1), h) = _
  rw [S c]
noncomputable def endsBody : MSs := match b_law_ends with
  | .cons _ (.cons (.for1 _ _ _ b _) _) => b
  | _ => .nil
theorem ends_loop {h : Hp} {k : Nat} {rep : Bool} {ep : Nat} {sz : List (List Nat × V)} {code : Nat → List Nat} {l : List Nat} (hk : h[k]? = some (.dict rep ep sz)) (S : Siz code sz) : ∀ (r dn : List Nat) (x : Option V), l = dn ++ r → l.length ≤ 1000 → ∃ x',
    For X d (fun _ => true) (st1 3) endsBody (r.map fun c => V.str [c]) [some (.str l), some (.ref k), some (.ref h.length), x] (h ++ [.list (endl code l dn.length)]) .next [some (.str l), some (.ref k), some (.ref h.length), x'] (h ++ [.list (endl code l l.length)])
  | [], dn, x, e, _ => by
    rw [List.append_nil] at e
    subst e
    exact ⟨x, f_nil rfl⟩
  | c :: r, dn, x, e, hl => by
    have e2 : l = (dn ++ [c]) ++ r := by rw [e]; simp
    obtain ⟨x', ih⟩ := ends_loop hk S r (dn ++ [c]) (some (.str [c])) e2 hl
    refine ⟨x', f_cons rfl rfl ?_ ih⟩
    have hc : l[dn.length]? = some c := by rw [e]; simp
    have hlt := lt_of_get hc
    have hw : Grow h (h ++ [.list (endl code l dn.length)]) := Grow.app
    have hk2 := hw.get hk
    rw [show (dn ++ [c]).length = dn.length + 1 by simp, endl_succ]
    refine x_cons (s_app (k := h.length) (e_loc rfl) (isL_of append_at) (e_bin (e_idx (e_loc rfl) (e_neg (i := 1) e_cst) (idx_last append_at endl_last)) (e_meth (e_loc rfl) (by show isD X _ (.ref k) = true; show (match (h ++ [O.list (endl code l dn.length)])[k]? with | some (O.dict _ _ _) => true | _ => false) = true; rw [hk2]) (a_cons (e_loc rfl) (a_cons e_cst a_nil)) (get_size hk2 S c)) rfl) ?_) x_nil
    rw [appL_of append_at (by rw [endl_len]; unfold LIM; omega), set_last, posn_succ hc]
    simp
theorem c_ends {h : Hp} {k : Nat} {rep : Bool} {ep : Nat} {sz : List (List Nat × V)} {code : Nat → List Nat} {l : List Nat} (hk : h[k]? = some (.dict rep ep sz)) (S : Siz code sz) (hl : l.length ≤ 1000) : Cl X (d + 1) 5 [.str l, .ref k] h (.ref h.length) (h ++ [.list (endl code l l.length)]) := by
  obtain ⟨x', hf⟩ := ends_loop (X := X) (d := d) (l := l) hk S l [] none rfl hl
  refine c_is (fn := ⟨2, 4, b_law_ends, none⟩) (m1 := [some (.str l), some (.ref k), some (.ref h.length), x']) rfl rfl ?_
  refine x_cons (s_asg (e_list (vs := [.int 0]) (a_cons e_cst a_nil))) ?_
  refine x_cons (s_for (chk := fun _ => true) (vs := l.map fun c => V.str [c]) (e_loc rfl) rfl (fun _ _ _ _ q => by cases q) ?_) (x_ret (s_ret (e_loc rfl)))
  have e0 : endl code l ([] : List Nat).length = [.int 0] := by simp [endl, posn_zero]
  rw [e0] at hf
  exact hf
end
end Mine

end

section
open PySem
namespace Mine

theorem slc_nat {l : List Nat} {a b : Nat} (ha : a ≤ l.length) (hb : b ≤ l.length) : slc l (some (a : Int)) (some (b : Int)) = (l.take b).drop a := by
  have c : ∀ k : Nat, k ≤ l.length → clamp (k : Int) l.length = k := fun k hk => by
    unfold clamp
    rw [if_neg (by omega), Int.toNat_natCast, Nat.min_eq_left hk]
  show (l.take (clamp (b : Int) l.length)).drop (clamp (a : Int) l.length) = _
  rw [c a ha, c b hb]
theorem cut_len {l : List Nat} {a b : Nat} : ((l.take b).drop a).length ≤ l.length := by
  rw [List.length_drop, List.length_take]
  exact Nat.le_trans (Nat.sub_le _ _) (Nat.min_le_right _ _)

abbrev mS (l W : List Nat) (ke kn : Nat) (f5 f6 f7 f8 f9 f10 f11 f12 f13 f14 : Option V) : M :=
  [some (.str l), some (.str W), some (.ref ke), some (.ref kn), some (.ext 0), f5, f6, f7, f8, f9, f10, f11, f12, f13, f14]

section
variable {X : Hp} {d : Nat}
/-- a block that picks by a comparison -/
theorem cm_pick {op : CmpOp} {s : Nat} {B : Int} {g : Nat → Int} {P : Nat → Bool} {chk : Hp → Bool} {h : Hp} {m : M} {p1 p2 p3 p4 : Pos} (hc : chk h = true) (h14 : 14 < m.length) (hs : m.getD s none = some (.int B)) (h14s : s ≠ 14) (hP : ∀ j, cmpI op (g j) B = some (P j)) : ∀ ks : List Nat,
    Cm X d chk (.loc 14 p1) 14 (.yes (.cmp op (.loc 14 p2) (.loc s p3) p4)) (ks.map fun j => V.int (g j)) m h ((ks.filter P).map fun j => V.int (g j)) h
  | [] => k_nil hc
  | j :: ks => by
    have ih := cm_pick hc h14 hs h14s hP (p1 := p1) (p2 := p2) (p3 := p3) (p4 := p4) ks
    have g1 : (m.set 14 (some (V.int (g j)))).getD 14 none = some (V.int (g j)) := by
      rw [List.getD_eq_getElem?_getD, List.getElem?_set_self h14]; rfl
    have g2 : (m.set 14 (some (V.int (g j)))).getD s none = some (.int B) := by
      rw [List.getD_eq_getElem?_getD, List.getElem?_set_ne (Ne.symm h14s), ← List.getD_eq_getElem?_getD]
      exact hs
    have e : Ev X d (.cmp op (.loc 14 p2) (.loc s p3) p4) (m.set 14 (some (V.int (g j)))) h (.bool (P j)) h := e_cmp (e_loc g1) (e_loc g2) (hP j)
    cases hp : P j with
    | true =>
      rw [hp] at e
      rw [List.filter_cons_of_pos hp]
      exact k_yes hc e rfl (e_loc g1) ih
    | false =>
      rw [hp] at e
      rw [List.filter_cons_of_neg (by rw [hp]; exact Bool.noConfusion)]
      exact k_not hc e rfl ih

theorem obj_ref {h : Hp} {k : Nat} {o : O} (e : h[k]? = some o) : obj X h (.ref k) = some o := e
/-- what a slices' call stands on -/
structure Sl (X : Hp) (code : Nat → List Nat) (es : List (List Nat × List Nat)) (l : List Nat) (ke kn ep : Nat) (xs : List Int) (h : Hp) : Prop where
  K : Cod code es
  hes : ∀ e ∈ es, e.1 ≠ [] ∧ e.2.length ≤ e.1.length ∧ e.2.length ≤ 1
  hl : l.length ≤ 1000
  hw : (l.flatMap code).length ≤ 1000
  he : h[ke]? = some (.list (endl code l l.length))
  hn : h[kn]? = some (.dict true ep (encd es))
  hx : X[0]? = some (.list (xs.map fun i => V.int i))
theorem Sl.grow {code : Nat → List Nat} {es : List (List Nat × List Nat)} {l : List Nat} {ke kn ep : Nat} {xs : List Int} {h h' : Hp} (s : Sl X code es l ke kn ep xs h) (w : Grow h h') : Sl X code es l ke kn ep xs h' :=
  ⟨s.K, s.hes, s.hl, s.hw, w.get s.he, w.get s.hn, s.hx⟩

/-- how many ends lie before p, or not behind q -/
noncomputable def cntA (code : Nat → List Nat) (l : List Nat) (p : Nat) : Nat := ((List.range (l.length + 1)).filter fun j => decide (((posn code l j : Nat) : Int) < (p : Int))).length
noncomputable def cntB (code : Nat → List Nat) (l : List Nat) (q : Nat) : Nat := ((List.range (l.length + 1)).filter fun j => decide (((posn code l j : Nat) : Int) ≤ (q : Int))).length
theorem cntA_is {code : Nat → List Nat} {l : List Nat} {p : Nat} (hp : p ≤ (l.flatMap code).length) : cntA code l p ≤ l.length ∧ ∀ k, k ≤ l.length → (posn code l k < p ↔ k < cntA code l p) := by
  obtain ⟨h1, h2⟩ := count_down (P := fun j => decide (((posn code l j : Nat) : Int) < (p : Int))) (fun i j hij hj => by
    have := posn_mono (code := code) (l := l) hij
    have hj' := of_decide_eq_true hj
    exact decide_eq_true (by omega)) (l.length + 1)
  have h3 : ∀ k, k ≤ l.length → (posn code l k < p ↔ k < cntA code l p) := fun k hk => by
    have := h2 k (Nat.lt_succ_of_le hk)
    rw [decide_eq_true_iff] at this
    exact ⟨fun z => this.mp (by omega), fun z => by have := this.mpr z; omega⟩
  refine ⟨?_, h3⟩
  rcases Nat.lt_or_ge l.length (cntA code l p) with q | q
  · have := (h3 l.length (Nat.le_refl _)).mpr q
    rw [posn_all] at this
    omega
  · exact q
theorem cntB_is {code : Nat → List Nat} {l : List Nat} {q : Nat} : 1 ≤ cntB code l q ∧ cntB code l q - 1 ≤ l.length ∧ ∀ k, k ≤ l.length → (posn code l k ≤ q ↔ k ≤ cntB code l q - 1) := by
  obtain ⟨h1, h2⟩ := count_down (P := fun j => decide (((posn code l j : Nat) : Int) ≤ (q : Int))) (fun i j hij hj => by
    have := posn_mono (code := code) (l := l) hij
    have hj' := of_decide_eq_true hj
    exact decide_eq_true (by omega)) (l.length + 1)
  have h3 : ∀ k, k ≤ l.length → (posn code l k ≤ q ↔ k < cntB code l q) := fun k hk => by
    have := h2 k (Nat.lt_succ_of_le hk)
    rw [decide_eq_true_iff] at this
    exact ⟨fun z => this.mp (by omega), fun z => by have := this.mpr z; omega⟩
  have h4 : 0 < cntB code l q := (h3 0 (Nat.zero_le _)).mp (by rw [posn_zero]; exact Nat.zero_le _)
  have h5 : cntB code l q ≤ l.length + 1 := h1
  refine ⟨h4, by omega, fun k hk => ?_⟩
  have := h3 k hk
  omega

noncomputable def slicesBody : MSs := match b_law_slices with
  | .cons _ (.cons _ (.cons _ (.cons (.for1 _ _ _ b _) _))) => b
  | _ => .nil
noncomputable def innerBody : MSs := match slicesBody with
  | .cons _ (.cons _ (.cons (.for1 _ _ _ b _) _)) => b
  | _ => .nil

theorem inner_turn {code : Nat → List Nat} {es : List (List Nat × List Nat)} {l : List Nat} {ke kn ep : Nat} {xs : List Int} {h : Hp} (s : Sl X code es l ke kn ep xs h) {p : Nat} (hp : p ≤ (l.flatMap code).length) {st : Int} (hst : 0 ≤ st) (f5 f6 f10 f11 f12 f13 f14 : Option V) :
    ∃ g10 g11 g12 h', Grow h h' ∧ Ex X (d + 2) innerBody (mS l (l.flatMap code) ke kn f5 f6 (some (.int p)) (some (.int (cntA code l p : Nat))) (some (.int st)) f10 f11 f12 f13 f14) h .next (mS l (l.flatMap code) ke kn f5 f6 (some (.int p)) (some (.int (cntA code l p : Nat))) (some (.int st)) g10 g11 g12 f13 f14) h' := by
  obtain ⟨q, hq⟩ : ∃ q : Nat, (q : Int) = min ((l.flatMap code).length : Int) ((p : Int) + st) := ⟨(min ((l.flatMap code).length : Int) ((p : Int) + st)).toNat, by omega⟩
  have hpq : p ≤ q := by omega
  have hqW : q ≤ (l.flatMap code).length := by omega
  obtain ⟨a1, a2⟩ := cntA_is (code := code) (l := l) hp
  obtain ⟨b0, b1, b2⟩ := cntB_is (code := code) (l := l) (q := q)
  have law := slice_law s.K hpq hqW a2 a1 b2 b1
  generalize hA : cntA code l p = A at *
  generalize hB : cntB code l q = B at *
  have hBi : ((B : Nat) : Int) - 1 = ((B - 1 : Nat) : Int) := by omega
  have hw := s.hw
  have lP := posn_le (code := code) (l := l) A
  have lQ := posn_le (code := code) (l := l) (B - 1)
  -- the heap behind the second block
  have hg : Grow h (h ++ [.list (((List.range (l.length + 1)).filter fun j => decide (((posn code l j : Nat) : Int) ≤ (q : Int))).map fun j => V.int ((posn code l j : Nat) : Int))]) := Grow.app
  have s1 := s.grow hg
  refine ⟨some (.int q), some (.int (B - 1 : Nat)), some (.str (if A ≤ B - 1 then ((l.flatMap code).take (posn code l A)).drop p ++ (l.take (B - 1)).drop A ++ ((l.flatMap code).take q).drop (posn code l (B - 1)) else ((l.flatMap code).take q).drop p)), _, hg, ?_⟩
  refine x_cons (s_asg (v := .int q) (ev_same (e_bcall (a_cons (e_bcall (a_cons (e_loc rfl) a_nil) len_str) (a_cons (e_bin (e_loc rfl) (e_loc rfl) rfl) a_nil)) rfl) (by rw [hq]))) ?_
  refine x_cons (s_asg (v := .int (B - 1 : Nat)) (ev_same (e_bin (e_bcall (a_cons (e_comp (e_loc rfl) (it_ref s.he) (by rw [endl_len]; unfold LIM; have := s.hl; omega) (cm_pick (s := 10) (B := (q : Int)) (g := fun j => ((posn code l j : Nat) : Int)) (P := fun j => decide (((posn code l j : Nat) : Int) ≤ (q : Int))) (decide_eq_true s.he) (by show 14 < 15; decide) rfl (by decide) (fun _ => rfl) (List.range (l.length + 1)))) a_nil) (len_ref append_at)) e_cst rfl) (by
    rw [List.length_map]
    show V.int (((cntB code l q : Nat) : Int) - 1) = _
    rw [hB, hBi]))) ?_
  refine x_cons (s_asg (v := .str (((l.flatMap code).take q).drop p)) (ev_same (e_slice (e_loc rfl) (o_yes (e_loc rfl)) (o_yes (e_loc rfl))) (by rw [slc_nat hp hqW]))) ?_
  refine x_cons (m1 := mS l (l.flatMap code) ke kn f5 f6 (some (.int p)) (some (.int (A : Nat))) (some (.int st)) (some (.int q)) (some (.int (B - 1 : Nat))) (some (.str (if A ≤ B - 1 then ((l.flatMap code).take (posn code l A)).drop p ++ (l.take (B - 1)).drop A ++ ((l.flatMap code).take q).drop (posn code l (B - 1)) else ((l.flatMap code).take q).drop p))) f13 f14) (h1 := h ++ [.list (((List.range (l.length + 1)).filter fun j => decide (((posn code l j : Nat) : Int) ≤ (q : Int))).map fun j => V.int ((posn code l j : Nat) : Int))]) ?_ ?_
  · have hcmp : cmpop .LtE (.int (A : Nat)) (.int (B - 1 : Nat)) = some (decide (A ≤ B - 1)) := by
      show some (decide (((A : Nat) : Int) ≤ ((B - 1 : Nat) : Int))) = _
      congr 1
      exact decide_eq_decide.mpr Int.ofNat_le
    by_cases hab : A ≤ B - 1
    · rw [if_pos hab]
      refine s_ite_t (e_cmp (e_loc rfl) (e_loc rfl) hcmp) (by rw [decide_eq_true hab]; rfl) (x_cons (s_asg ?_) x_nil)
      refine e_bin (e_bin (ev_same (e_slice (e_loc rfl) (o_yes (e_loc rfl)) (o_yes (e_idx (e_loc rfl) (e_loc rfl) (idx_list s1.he (Int.natCast_nonneg _) (endl_at a1))))) (by rw [Int.toNat_natCast, slc_nat hp lP])) (ev_same (e_slice (e_loc rfl) (o_yes (e_loc rfl)) (o_yes (e_loc rfl))) (by rw [slc_nat a1 b1])) (add_str ?_)) (ev_same (e_slice (e_loc rfl) (o_yes (e_idx (e_loc rfl) (e_loc rfl) (idx_list s1.he (Int.natCast_nonneg _) (endl_at b1)))) (o_yes (e_loc rfl))) (by rw [Int.toNat_natCast, slc_nat lQ hqW])) (add_str ?_)
      · have h1 := cut_len (l := l.flatMap code) (a := p) (b := posn code l A)
        have h2 := cut_len (l := l) (a := A) (b := B - 1)
        have h3 := s.hl
        unfold LIM
        omega
      · have h1 := cut_len (l := l.flatMap code) (a := p) (b := posn code l A)
        have h2 := cut_len (l := l) (a := A) (b := B - 1)
        have h4 := cut_len (l := l.flatMap code) (a := posn code l (B - 1)) (b := q)
        have h3 := s.hl
        rw [List.length_append]
        unfold LIM
        omega
    · rw [if_neg hab]
      exact s_ite_f (e_cmp (e_loc rfl) (e_loc rfl) hcmp) (by rw [decide_eq_false hab]; rfl) x_nil
  · have hcut := cut_len (l := l.flatMap code) (a := p) (b := q)
    have hc := c_unescape2 (X := X) (d := d) (l := ((l.flatMap code).take q).drop p) (dv := .ref kn) (ep := ep) (es := es) (obj_ref s1.hn) s.hes (by omega)
    refine x_cons (s_ite_f (u := .bool false) (e_cmp (e_call (a_cons (ev_same (e_slice (e_loc rfl) (o_yes (e_loc rfl)) (o_yes (e_loc rfl))) (by rw [slc_nat hp hqW])) (a_cons (e_loc rfl) a_nil)) hc) (e_loc rfl) ?_) rfl x_nil) x_nil
    rw [law]
    show some (!decide (_ = _)) = _
    rw [decide_eq_true rfl]
    rfl
end
end Mine

end

section
open PySem
namespace Mine
section
variable {X : Hp} {d : Nat} {code : Nat → List Nat} {es : List (List Nat × List Nat)} {l : List Nat} {ke kn ep : Nat} {xs : List Int}

theorem inner_loop {p k0 : Nat} {vs : List V} (hp : p ≤ (l.flatMap code).length) : ∀ (sts : List Int) (h : Hp) (f5 f6 f9 f10 f11 f12 f13 f14 : Option V), (∀ st ∈ sts, 0 ≤ st) → h[k0]? = some (.list vs) → Sl X code es l ke kn ep xs h →
    ∃ g9 g10 g11 g12 h', Grow h h' ∧ For X (d + 2) (fun h' => decide (h'[k0]? = some (.list vs))) (st1 9) innerBody (sts.map fun i => V.int i) (mS l (l.flatMap code) ke kn f5 f6 (some (.int p)) (some (.int (cntA code l p : Nat))) f9 f10 f11 f12 f13 f14) h .next (mS l (l.flatMap code) ke kn f5 f6 (some (.int p)) (some (.int (cntA code l p : Nat))) g9 g10 g11 g12 f13 f14) h'
  | [], h, f5, f6, f9, f10, f11, f12, f13, f14, _, hk, s => ⟨f9, f10, f11, f12, h, Grow.refl h, f_nil (decide_eq_true hk)⟩
  | st :: sts, h, f5, f6, f9, f10, f11, f12, f13, f14, hs, hk, s => by
    obtain ⟨g10, g11, g12, h1, w1, e1⟩ := inner_turn (d := d) s hp (hs st (.head _)) f5 f6 f10 f11 f12 f13 f14
    obtain ⟨k9, k10, k11, k12, h2, w2, e2⟩ := inner_loop hp sts h1 f5 f6 (some (.int st)) g10 g11 g12 f13 f14 (fun q hq => hs q (.tail _ hq)) (w1.get hk) (s.grow w1)
    exact ⟨k9, k10, k11, k12, h2, w1.trans w2, f_cons (decide_eq_true hk) rfl e1 e2⟩

theorem outer_turn {h : Hp} (s : Sl X code es l ke kn ep xs h) (hx : xs ≠ []) (hx2 : xs.length ≤ 1000) {f k p : Nat} {fs : List Nat} (hf : h[f]? = some (.list (fs.map fun (q : Nat) => V.int (q : Int)))) (hk : fs[k]? = some p) (hp : p ≤ (l.flatMap code).length) (f7 f8 f9 f10 f11 f12 f13 f14 : Option V) :
    ∃ g7 g8 g9 g10 g11 g12 h', Grow h h' ∧ Ex X (d + 2) slicesBody (mS l (l.flatMap code) ke kn (some (.ref f)) (some (.int (k : Int))) f7 f8 f9 f10 f11 f12 f13 f14) h .next (mS l (l.flatMap code) ke kn (some (.ref f)) (some (.int (k : Int))) g7 g8 g9 g10 g11 g12 f13 f14) h' := by
  have hlen : 0 < xs.length := by cases xs with | nil => exact absurd rfl hx | cons => simp
  have hm := fmod_range (x := (k : Int)) (y := (xs.length : Int)) (by omega)
  obtain ⟨i, hi⟩ : ∃ i, xs[((k : Int).fmod (xs.length : Int)).toNat]? = some i := ⟨_, List.getElem?_eq_getElem (by omega)⟩
  have hi' : (xs.map fun i => V.int i)[((k : Int).fmod (xs.length : Int)).toNat]? = some (.int i) := by rw [List.getElem?_map, hi]; rfl
  have w1 : Grow h (h ++ [.list (((List.range (l.length + 1)).filter fun j => decide (((posn code l j : Nat) : Int) < (p : Int))).map fun j => V.int ((posn code l j : Nat) : Int))]) := Grow.app
  have s1 := s.grow w1
  have w2 : Grow (h ++ [.list (((List.range (l.length + 1)).filter fun j => decide (((posn code l j : Nat) : Int) < (p : Int))).map fun j => V.int ((posn code l j : Nat) : Int))]) (h ++ [.list (((List.range (l.length + 1)).filter fun j => decide (((posn code l j : Nat) : Int) < (p : Int))).map fun j => V.int ((posn code l j : Nat) : Int))] ++ [.list ([(i.natAbs : Int).fmod 13, ((l.flatMap code).length : Int)].map fun i => V.int i)]) := Grow.app
  have s2 := s1.grow w2
  obtain ⟨g9, g10, g11, g12, h3, w3, e3⟩ := inner_loop (d := d) (k0 := (h ++ [O.list (((List.range (l.length + 1)).filter fun j => decide (((posn code l j : Nat) : Int) < (p : Int))).map fun j => V.int ((posn code l j : Nat) : Int))]).length) hp [(i.natAbs : Int).fmod 13, ((l.flatMap code).length : Int)] _ (some (.ref f)) (some (.int (k : Int))) f9 f10 f11 f12 f13 f14 (fun st hst => by
    simp only [List.mem_cons, List.not_mem_nil, or_false] at hst
    rcases hst with rfl | rfl
    · exact (fmod_range (by decide)).1
    · exact Int.natCast_nonneg _) append_at s2
  refine ⟨some (.int p), some (.int (cntA code l p : Nat)), g9, g10, g11, g12, h3, (w1.trans w2).trans w3, ?_⟩
  have hfk : (fs.map fun (q : Nat) => V.int (q : Int))[((k : Nat) : Int).toNat]? = some (.int (p : Int)) := by rw [Int.toNat_natCast, List.getElem?_map, hk]; rfl
  refine x_cons (s_asg (e_idx (e_loc rfl) (e_loc rfl) (idx_list hf (Int.natCast_nonneg _) hfk))) ?_
  refine x_cons (s_asg (v := .int (cntA code l p : Nat)) (ev_same (e_bcall (a_cons (e_comp (e_loc rfl) (it_ref s.he) (by rw [endl_len]; unfold LIM; have := s.hl; omega) (cm_pick (s := 7) (B := (p : Int)) (g := fun j => ((posn code l j : Nat) : Int)) (P := fun j => decide (((posn code l j : Nat) : Int) < (p : Int))) (decide_eq_true s.he) (by show 14 < 15; decide) rfl (by decide) (fun _ => rfl) (List.range (l.length + 1)))) a_nil) (len_ref append_at)) (by
    rw [List.length_map]; rfl))) ?_
  refine x_cons (s_for (e_list (vs := [.int ((i.natAbs : Int).fmod 13), .int ((l.flatMap code).length : Int)]) (a_cons (e_bin (e_bcall (a_cons (e_idx (e_loc rfl) (e_bin (e_loc rfl) (e_bcall (a_cons (e_loc rfl) a_nil) (len_ext s.hx)) (fmod_of (by rw [List.length_map]; omega))) (idx_ext s.hx (by rw [List.length_map]; exact hm.1) (by rw [List.length_map]; exact hi'))) a_nil) rfl) e_cst (fmod_of (by decide))) (a_cons (e_bcall (a_cons (e_loc rfl) a_nil) len_str) a_nil))) (it_ref append_at) (fun _ _ _ _ q => by cases q) e3) x_nil

theorem outer_loop (hx : xs ≠ []) (hx2 : xs.length ≤ 1000) {f : Nat} {fs : List Nat} (hfs : ∀ q ∈ fs, q ≤ (l.flatMap code).length) : ∀ (ks : List Nat) (h : Hp) (f6 f7 f8 f9 f10 f11 f12 f13 f14 : Option V), (∀ k ∈ ks, k < fs.length) → h[f]? = some (.list (fs.map fun (q : Nat) => V.int (q : Int))) → Sl X code es l ke kn ep xs h →
    ∃ m' h', Grow h h' ∧ For X (d + 2) (fun _ => true) (st1 6) slicesBody (ks.map fun (q : Nat) => V.int (q : Int)) (mS l (l.flatMap code) ke kn (some (.ref f)) f6 f7 f8 f9 f10 f11 f12 f13 f14) h .next m' h'
  | [], h, f6, f7, f8, f9, f10, f11, f12, f13, f14, _, hf, s => ⟨_, h, Grow.refl h, f_nil rfl⟩
  | k :: ks, h, f6, f7, f8, f9, f10, f11, f12, f13, f14, hks, hf, s => by
    have hk := List.getElem?_eq_getElem (hks k (.head _))
    obtain ⟨g7, g8, g9, g10, g11, g12, h1, w1, e1⟩ := outer_turn (d := d) s hx hx2 hf hk (hfs _ (List.mem_of_getElem? hk)) f7 f8 f9 f10 f11 f12 f13 f14
    obtain ⟨m', h2, w2, e2⟩ := outer_loop hx hx2 hfs ks h1 (some (.int (k : Int))) g7 g8 g9 g10 g11 g12 f13 f14 (fun q hq => hks q (.tail _ hq)) (w1.get hf) (s.grow w1)
    exact ⟨m', h2, w1.trans w2, f_cons rfl rfl e1 e2⟩

noncomputable def firstElt : ME := match b_law_slices with
  | .cons _ (.cons _ (.cons (.ite _ (.cons (.asgc _ _ (.comp e _ _ _ _ _ _) _) _) _ _) _)) => e
  | _ => .cst .none ⟨0, 0, 0, 0⟩
theorem cm_firsts {chk : Hp → Bool} {h : Hp} {W : List Nat} (hc : chk h = true) (f5 f6 f7 f8 f9 f10 f11 f12 f13 f14 : Option V) : ∀ ys : List Int, ∃ fs : List Nat, (∀ q ∈ fs, q ≤ W.length) ∧ fs.length = ys.length ∧ Cm X d chk firstElt 13 .no (ys.map fun i => V.int i) (mS l W ke kn f5 f6 f7 f8 f9 f10 f11 f12 f13 f14) h (fs.map fun (q : Nat) => V.int (q : Int)) h
  | [] => ⟨[], fun _ h => absurd h (by simp), rfl, k_nil hc⟩
  | y :: ys => by
    obtain ⟨fs, h1, h2, h3⟩ := cm_firsts hc f5 f6 f7 f8 f9 f10 f11 f12 f13 f14 ys
    have hr := fmod_range (x := (y.natAbs : Int).fdiv 19) (y := (W.length : Int) + 1) (by omega)
    refine ⟨(((y.natAbs : Int).fdiv 19).fmod ((W.length : Int) + 1)).toNat :: fs, fun q hq => ?_, by simp [h2], ?_⟩
    · rcases List.mem_cons.mp hq with rfl | hq
      · omega
      · exact h1 q hq
    · rw [List.map_cons, List.map_cons]
      refine k_all hc (ev_same (e_bin (e_bin (e_bcall (a_cons (e_loc rfl) a_nil) rfl) e_cst (fdiv_of (by decide) (by decide))) (e_bin (e_bcall (a_cons (e_loc rfl) a_nil) len_str) e_cst rfl) (fmod_of (by show ((W.length : Nat) : Int) + 1 ≠ 0; omega))) ?_) h3
      show V.int (((y.natAbs : Int).fdiv 19).fmod (((W.length : Nat) : Int) + 1)) = _
      rw [Int.toNat_of_nonneg hr.1]

/-- the slices' call answers True -/
theorem c_slices {h : Hp} (s : Sl X code es l ke kn ep xs h) (hx : xs ≠ []) (hx2 : xs.length ≤ 1000) : ∃ h', Grow h h' ∧ Cl X (d + 3) 6 [.str l, .str (l.flatMap code), .ref ke, .ref kn, .ext 0] h (.bool true) h' := by
  have hw := s.hw
  -- the places to start from
  have key : ∃ (f : Nat) (fs : List Nat) (h1 : Hp) (f13 : Option V), Grow h h1 ∧ h1[f]? = some (.list (fs.map fun (q : Nat) => V.int (q : Int))) ∧ (∀ q ∈ fs, q ≤ (l.flatMap code).length) ∧ fs.length ≤ 2000 ∧
      ∀ (b : MSs) (m' : M) (h' : Hp) (v : V), Ex X (d + 2) b (mS l (l.flatMap code) ke kn (some (.ref f)) none none none none none none none f13 none) h1 (.ret v) m' h' → Ex X (d + 2) (match b_law_slices with | .cons _ (.cons s2 (.cons s3 _)) => .cons s2 (.cons s3 b) | _ => .nil) (mS l (l.flatMap code) ke kn none none none none none none none none none none) h (.ret v) m' h' := by
    have w1 : Grow h (h ++ [.list ((List.range (((l.flatMap code).length : Int) + 1).toNat).map fun (i : Nat) => V.int (i : Int))]) := Grow.app
    have hle : ((((l.flatMap code).length : Nat) : Int) + 1).natAbs ≤ LIM := by unfold LIM; omega
    by_cases h30 : 30 < (l.flatMap code).length
    · obtain ⟨fs, q1, q2, q3⟩ := cm_firsts (X := X) (d := d + 2) (l := l) (ke := ke) (kn := kn) (chk := fun _ => true) (h := h ++ [.list ((List.range (((l.flatMap code).length : Int) + 1).toNat).map fun (i : Nat) => V.int (i : Int))]) (W := l.flatMap code) rfl (some (.ref h.length)) none none none none none none none none none xs
      refine ⟨(h ++ [O.list ((List.range (((l.flatMap code).length : Int) + 1).toNat).map fun (i : Nat) => V.int (i : Int))]).length, fs, h ++ [.list ((List.range (((l.flatMap code).length : Int) + 1).toNat).map fun (i : Nat) => V.int (i : Int))] ++ [.list (fs.map fun (q : Nat) => V.int (q : Int))], none, w1.trans Grow.app, append_at, q1, by omega, fun b m' h' v e => ?_⟩
      refine x_cons (s_asg (e_lrange (k := ((l.flatMap code).length : Int) + 1) (e_bin (e_bcall (a_cons (e_loc rfl) a_nil) len_str) e_cst rfl) hle)) ?_
      refine x_cons (s_ite_t (u := .bool true) (e_cmp (e_bcall (a_cons (e_loc rfl) a_nil) len_str) e_cst ?_) rfl (x_cons (s_asgc (e_comp (e_loc rfl) (it_ext s.hx) (by rw [List.length_map]; unfold LIM; omega) q3)) x_nil)) e
      show some (decide ((30 : Int) < ((l.flatMap code).length : Nat))) = _
      rw [decide_eq_true (by omega)]
    · refine ⟨h.length, List.range ((l.flatMap code).length + 1), h ++ [.list ((List.range (((l.flatMap code).length : Int) + 1).toNat).map fun (i : Nat) => V.int (i : Int))], none, w1, ?_, fun q hq => Nat.lt_succ_iff.mp (List.mem_range.mp hq), by rw [List.length_range]; omega, fun b m' h' v e => ?_⟩
      · rw [append_at, show ((((l.flatMap code).length : Nat) : Int) + 1).toNat = (l.flatMap code).length + 1 by omega]
      · refine x_cons (s_asg (e_lrange (k := ((l.flatMap code).length : Int) + 1) (e_bin (e_bcall (a_cons (e_loc rfl) a_nil) len_str) e_cst rfl) hle)) ?_
        refine x_cons (s_ite_f (u := .bool false) (e_cmp (e_bcall (a_cons (e_loc rfl) a_nil) len_str) e_cst ?_) rfl x_nil) e
        show some (decide ((30 : Int) < ((l.flatMap code).length : Nat))) = _
        rw [decide_eq_false (by omega)]
  obtain ⟨f, fs, h1, f13, w1, hf, hfs, hfl, run⟩ := key
  obtain ⟨m', h2, w2, e2⟩ := outer_loop (X := X) (d := d) (l := l) (code := code) (es := es) (ke := ke) (kn := kn) (ep := ep) (xs := xs) hx hx2 hfs (List.range fs.length) h1 none none none none none none none f13 none (fun k hk => List.mem_range.mp hk) hf (s.grow w1)
  refine ⟨h2, w1.trans w2, c_is (fn := ⟨5, 15, b_law_slices, none⟩) (m1 := m') rfl rfl ?_⟩
  refine x_cons (s_ite_f (u := .bool false) (e_cmp (e_bcall (a_cons (e_loc rfl) a_nil) len_str) (e_idx (e_loc rfl) (e_neg (i := 1) e_cst) (idx_last s.he endl_last)) ?_) rfl x_nil) (run _ _ _ _ ?_)
  · rw [posn_all]
    show some (!decide ((((l.flatMap code).length : Nat) : Int) = ((l.flatMap code).length : Nat))) = _
    rw [decide_eq_true rfl]; rfl
  · refine x_cons (s_range (k := ((fs.map fun (q : Nat) => V.int (q : Int)).length : Nat)) (e_bcall (a_cons (e_loc rfl) a_nil) (len_ref hf)) (by rw [List.length_map]; unfold LIM; omega) ?_) (x_ret (s_ret e_cst))
    rw [Int.toNat_natCast, List.length_map]
    exact e2
end
end Mine

end

section
open PySem
namespace Mine

theorem at0 {H : Hp} {a b c : O} : (H ++ [a] ++ [b] ++ [c])[H.length]? = some a := by simp
theorem at1 {H : Hp} {a b c : O} {k : Nat} (hk : k = H.length + 1) : (H ++ [a] ++ [b] ++ [c])[k]? = some b := by subst hk; simp
theorem at2 {H : Hp} {a b c : O} {k : Nat} (hk : k = H.length + 2) : (H ++ [a] ++ [b] ++ [c])[k]? = some c := by subst hk; simp
theorem set0 {H : Hp} {a b c o : O} : (H ++ [a] ++ [b] ++ [c]).set H.length o = H ++ [o] ++ [b] ++ [c] := by simp
theorem set1 {H : Hp} {a b c o : O} {k : Nat} (hk : k = H.length + 1) : (H ++ [a] ++ [b] ++ [c]).set k o = H ++ [a] ++ [o] ++ [c] := by subst hk; simp [List.set_append]
theorem set2 {H : Hp} {a b c o : O} {k : Nat} (hk : k = H.length + 2) : (H ++ [a] ++ [b] ++ [c]).set k o = H ++ [a] ++ [b] ++ [o] := by subst hk; simp [List.set_append]
theorem setD_of {rep rp : Bool} {h : Hp} {k ep : Nat} {es : List (List Nat × V)} {s : List Nat} {v : V} (ho : h[k]? = some (.dict rp ep es)) (hl : es.length < 1000) (hn : (keyIn s es).isNone = true) : setD rep h k s v = some (h.set k (.dict (rp && rep) (ep + 1) (es ++ [(s, v)]))) := by
  unfold setD
  rw [ho]
  exact if_pos ⟨hl, hn⟩

abbrev mL (l : List Nat) (f2 f3 f4 f5 f6 f7 f8 : Option V) : M := [some (.ext 0), some (.str l), f2, f3, f4, f5, f6, f7, f8, none]
noncomputable def tail3 (b : MSs) : MSs := match b_law with
  | .cons _ (.cons _ (.cons s3 (.cons s4 (.cons s5 _)))) => .cons s3 (.cons s4 (.cons s5 b))
  | _ => .nil

/-- the tables that escape and its reader go by -/
structure TabA (X : Hp) (code : Nat → List Nat) (es : List (List Nat × List Nat)) (ks kn kt : Nat) (h : Hp) : Prop where
  K : Cod code es
  hes : ∀ e ∈ es, e.1 ≠ [] ∧ e.2.length ≤ e.1.length ∧ e.2.length ≤ 1
  size : ∃ rep ep sz, h[ks]? = some (.dict rep ep sz) ∧ Siz code sz
  names : ∃ ep, h[kn]? = some (.dict true ep (encd es))
  esc : ∀ (d : Nat) (t : List Nat) (h' : Hp), t.length ≤ 1000 → Grow h h' → Cl X (d + 2) 1 [.str t, .ref kt] h' (.str (t.flatMap code)) h'
  len : ∀ x, (code x).length ≤ 6
section
variable {X : Hp} {xs : List Int}
theorem len4 (x : Nat) : (code4 x).length ≤ 6 := cases7 (P := fun x => (code4 x).length ≤ 6) (by decide) (by decide) (by decide) (by decide) (by decide) (by decide) (by decide) (fun x h1 h2 h3 h4 h5 h6 h7 => by rw [one4 h1 h5 h6 h7]; simp) x
theorem run_tabs (xo : XOk X xs) (H : Hp) (l : List Nat) : ∃ code es ks kn kt h1, TabA X code es ks kn kt h1 ∧ ∀ (b : MSs) (m' : M) (h' : Hp) (v : V), Ex X 20 b (mL l (some (.ref ks)) (some (.ref kn)) (some (.ref kt)) none none none none) h1 (.ret v) m' h' → Ex X 20 (tail3 b) (mL l none none none none none none none) H (.ret v) m' h' := by
  have hn1 : (H ++ [O.dict true 3 sz3]).length = H.length + 1 := by simp
  have hn2 : (H ++ [O.dict true 3 sz3] ++ [O.dict true 0 []]).length = H.length + 2 := by simp
  have hm : Ev X 20 (.bin .Mod (.bcall .len ⟨62, 7, 62, 10⟩ (.cons (.loc 0 ⟨62, 11, 62, 17⟩) .nil) ⟨62, 7, 62, 18⟩) (.cst (.int 2) ⟨62, 21, 62, 22⟩) ⟨62, 7, 62, 22⟩) (mL l (some (.ref H.length)) (some (.ref (H ++ [O.dict true 3 sz3]).length)) (some (.ref (H ++ [O.dict true 3 sz3] ++ [O.dict true 0 []]).length)) none none none none) (H ++ [O.dict true 3 sz3] ++ [O.dict true 0 []] ++ [O.dict true 0 []]) (.int ((xs.length : Int).fmod 2)) (H ++ [O.dict true 3 sz3] ++ [O.dict true 0 []] ++ [O.dict true 0 []]) :=
    e_bin (ev_same (e_bcall (a_cons (e_loc rfl) a_nil) (len_ext xo.s)) (by rw [List.length_map])) e_cst (fmod_of (by decide))
  by_cases hodd : (xs.length : Int).fmod 2 = 1
  · refine ⟨code4, tq, H.length, (H ++ [O.dict true 3 sz3]).length, (H ++ [O.dict true 3 sz3] ++ [O.dict true 0 []]).length, H ++ [O.dict false 4 (sz3 ++ szq)] ++ [O.dict true 1 (encd tq)] ++ [O.dict true 1 (encd tabq)], ⟨cod4, tq_ok, ⟨_, _, _, at0, siz4⟩, ⟨_, at1 hn1⟩, fun d t h' ht w => c_escapeq (w.get (at2 hn2)) (by omega), len4⟩, fun b m' h' v e => ?_⟩
    refine x_cons (s_asg2 (e_dict rfl) (e_dict rfl)) (x_cons (s_asg (e_dict rfl)) (x_cons (s_ite_t (u := .bool true) (e_cmp hm e_cst (by rw [hodd]; rfl)) rfl ?_) e))
    refine x_cons (s_sets e_cst (e_loc rfl) e_cst ((setD_of at0 (by decide) rfl).trans (congrArg some set0))) ?_
    refine x_cons (s_sets e_cst (e_loc rfl) e_cst ((setD_of (at1 hn1) (by decide) rfl).trans (congrArg some (set1 hn1)))) ?_
    exact x_cons (s_sets e_cst (e_loc rfl) e_cst ((setD_of (at2 hn2) (by decide) rfl).trans (congrArg some (set2 hn2)))) x_nil
  · refine ⟨code3, [], H.length, (H ++ [O.dict true 3 sz3]).length, (H ++ [O.dict true 3 sz3] ++ [O.dict true 0 []]).length, H ++ [O.dict true 3 sz3] ++ [O.dict true 0 []] ++ [O.dict true 0 []], ⟨cod3, fun e h => absurd h (by simp), ⟨_, _, _, at0, siz3⟩, ⟨_, at1 hn1⟩, fun d t h' ht w => c_escape0 (w.get (at2 hn2)) (by omega), fun x => Nat.le_succ_of_le (len3 x).1⟩, fun b m' h' v e => ?_⟩
    refine x_cons (s_asg2 (e_dict rfl) (e_dict rfl)) (x_cons (s_asg (e_dict rfl)) (x_cons (s_ite_f (u := .bool false) (e_cmp hm e_cst ?_) rfl x_nil) e))
    show some (decide ((xs.length : Int).fmod 2 = 1)) = _
    rw [decide_eq_false hodd]
end
end Mine

end

section
open PySem
namespace Mine

noncomputable def tail9 (b : MSs) : MSs := match b_law with
  | .cons _ (.cons _ (.cons _ (.cons _ (.cons _ (.cons _ (.cons _ (.cons _ (.cons s9 (.cons s10 (.cons s11 (.cons s12 _))))))))))) => .cons s9 (.cons s10 (.cons s11 (.cons s12 b)))
  | _ => .nil
noncomputable def loop8 : MSs := match b_law with
  | .cons _ (.cons _ (.cons _ (.cons _ (.cons _ (.cons _ (.cons _ (.cons (.for1 _ _ _ b _) _))))))) => b
  | _ => .nil
structure TabB (X : Hp) (code : Nat → List Nat) (es : List (List Nat × List Nat)) (ks kn : Nat) (l : List Nat) (h : Hp) : Prop where
  K : Cod code es
  hes : ∀ e ∈ es, e.1 ≠ [] ∧ e.2.length ≤ e.1.length ∧ e.2.length ≤ 1
  size : ∃ rep ep sz, h[ks]? = some (.dict rep ep sz) ∧ Siz code sz
  names : ∃ ep, h[kn]? = some (.dict true ep (encd es))
  len : ∀ x, (code x).length ≤ 6
  wr : W3 l = (if 34 ∈ l ∧ 39 ∉ l then 39 else 34) :: (l.flatMap code ++ [if 34 ∈ l ∧ 39 ∉ l then 39 else 34])
section
variable {X : Hp} {xs : List Int}
theorem run_quoted (xo : XOk X xs) (H : Hp) (l : List Nat) (hl : l.length ≤ 1000) (f2 f3 f4 f5 f6 : Option V) : ∃ code es ks kn h1, TabB X code es ks kn l h1 ∧ ∀ (b : MSs) (m' : M) (h' : Hp) (v : V), Ex X 20 b (mL l (some (.ref ks)) (some (.ref kn)) f4 f5 f6 (some (.str (W3 l))) none) h1 (.ret v) m' h' → Ex X 20 (tail9 b) (mL l f2 f3 f4 f5 f6 none none) H (.ret v) m' h' := by
  have hn1 : (H ++ [O.dict true 6 sz6]).length = H.length + 1 := by simp
  have hq := c_quoteattr (X := X) (d := 17) (h := H ++ [O.dict true 6 sz6] ++ [O.dict true 3 (encd tw)]) (l := l) xo (by omega)
  have e34 : Ev X 20 (.cmp .In (.cst (.str "\"") ⟨75, 7, 75, 10⟩) (.loc 1 ⟨75, 14, 75, 18⟩) ⟨75, 7, 75, 18⟩) (mL l (some (.ref H.length)) (some (.ref (H ++ [O.dict true 6 sz6]).length)) f4 f5 f6 (some (.str (W3 l))) none) (H ++ [O.dict true 6 sz6] ++ [O.dict true 3 (encd tw)] ++ [O.dict true 3 (encd whites)]) (.bool (decide (34 ∈ l))) (H ++ [O.dict true 6 sz6] ++ [O.dict true 3 (encd tw)] ++ [O.dict true 3 (encd whites)]) :=
    e_in (c := 34) rfl (e_loc rfl)
  have e39 : Ev X 20 (.cmp .In (.cst (.str "'") ⟨75, 23, 75, 26⟩) (.loc 1 ⟨75, 30, 75, 34⟩) ⟨75, 23, 75, 34⟩) (mL l (some (.ref H.length)) (some (.ref (H ++ [O.dict true 6 sz6]).length)) f4 f5 f6 (some (.str (W3 l))) none) (H ++ [O.dict true 6 sz6] ++ [O.dict true 3 (encd tw)] ++ [O.dict true 3 (encd whites)]) (.bool (decide (39 ∈ l))) (H ++ [O.dict true 6 sz6] ++ [O.dict true 3 (encd tw)] ++ [O.dict true 3 (encd whites)]) :=
    e_in (c := 39) rfl (e_loc rfl)
  by_cases h34 : 34 ∈ l
  · rw [decide_eq_true h34] at e34
    by_cases h39 : 39 ∈ l
    · rw [decide_eq_true h39] at e39
      refine ⟨code7, tw ++ tq, H.length, (H ++ [O.dict true 6 sz6]).length, H ++ [O.dict false 7 (sz6 ++ szq)] ++ [O.dict true 4 (encd (tw ++ tq))] ++ [O.dict true 3 (encd whites)], ⟨cod7, twq_ok, ⟨_, _, _, at0, siz7⟩, ⟨_, at1 hn1⟩, len7, ?_⟩, fun b m' h' v e => ?_⟩
      · rw [if_neg (by simp [h39]), W3_eq, if_neg (by simp [h39])]
      · refine x_cons (s_asg (e_dict rfl)) (x_cons (s_asg (e_dict rfl)) (x_cons (s_asg (e_call (a_cons (e_loc rfl) a_nil) hq)) (x_cons (s_ite_t (e_and_t e34 rfl e39) rfl ?_) e)))
        refine x_cons (s_sets e_cst (e_loc rfl) e_cst ((setD_of at0 (by decide) rfl).trans (congrArg some set0))) ?_
        exact x_cons (s_sets e_cst (e_loc rfl) e_cst ((setD_of (at1 hn1) (by decide) rfl).trans (congrArg some (set1 hn1)))) x_nil
    · rw [decide_eq_false h39] at e39
      refine ⟨code6, tw, H.length, (H ++ [O.dict true 6 sz6]).length, H ++ [O.dict true 6 sz6] ++ [O.dict true 3 (encd tw)] ++ [O.dict true 3 (encd whites)], ⟨cod6, tw_ok, ⟨_, _, _, at0, siz6⟩, ⟨_, at1 hn1⟩, fun x => Nat.le_succ_of_le (len6 x), ?_⟩, fun b m' h' v e => ?_⟩
      · rw [if_pos ⟨h34, h39⟩, W3_eq, if_pos ⟨h34, h39⟩]
      · exact x_cons (s_asg (e_dict rfl)) (x_cons (s_asg (e_dict rfl)) (x_cons (s_asg (e_call (a_cons (e_loc rfl) a_nil) hq)) (x_cons (s_ite_f (e_and_t e34 rfl e39) rfl x_nil) e)))
  · rw [decide_eq_false h34] at e34
    refine ⟨code6, tw, H.length, (H ++ [O.dict true 6 sz6]).length, H ++ [O.dict true 6 sz6] ++ [O.dict true 3 (encd tw)] ++ [O.dict true 3 (encd whites)], ⟨cod6, tw_ok, ⟨_, _, _, at0, siz6⟩, ⟨_, at1 hn1⟩, fun x => Nat.le_succ_of_le (len6 x), ?_⟩, fun b m' h' v e => ?_⟩
    · rw [if_neg (by simp [h34]), W3_eq, if_neg (by simp [h34]), flat67 h34]
    · exact x_cons (s_asg (e_dict rfl)) (x_cons (s_asg (e_dict rfl)) (x_cons (s_asg (e_call (a_cons (e_loc rfl) a_nil) hq)) (x_cons (s_ite_f (e_and_f e34 rfl) rfl x_nil) e)))

theorem slc_to {l : List Nat} {k : Nat} (hk : k ≤ l.length) : slc l none (some (k : Int)) = l.take k := by
  have c : clamp (k : Int) l.length = k := by
    unfold clamp
    rw [if_neg (by omega), Int.toNat_natCast, Nat.min_eq_left hk]
  show (l.take (clamp (k : Int) l.length)).drop 0 = _
  rw [c, List.drop_zero]
theorem slc_from {l : List Nat} {k : Nat} (hk : k ≤ l.length) : slc l (some (k : Int)) none = l.drop k := by
  have c : clamp (k : Int) l.length = k := by
    unfold clamp
    rw [if_neg (by omega), Int.toNat_natCast, Nat.min_eq_left hk]
  show (l.take l.length).drop (clamp (k : Int) l.length) = _
  rw [c, List.take_length]
theorem slc_mid {q : Nat} {b : List Nat} : slc (q :: (b ++ [q])) (some 1) (some (-1)) = b := by
  have hn : (q :: (b ++ [q])).length = b.length + 2 := by simp
  have c1 : clamp 1 (q :: (b ++ [q])).length = 1 := by
    unfold clamp
    rw [if_neg (by decide), hn]
    show min 1 (b.length + 2) = 1
    omega
  have c2 : clamp (-1) (q :: (b ++ [q])).length = b.length + 1 := by
    unfold clamp
    rw [if_pos (by decide), hn]
    omega
  show ((q :: (b ++ [q])).take (clamp (-1) (q :: (b ++ [q])).length)).drop (clamp 1 (q :: (b ++ [q])).length) = b
  rw [c1, c2, List.take_succ_cons, List.drop_succ_cons, List.drop_zero, List.take_left]

/-- the parts' writings side by side -/
theorem part_loop {code : Nat → List Nat} {es : List (List Nat × List Nat)} {ks kn kt : Nat} {h0 h : Hp} {l : List Nat} (T : TabA X code es ks kn kt h0) (w : Grow h0 h) (hl : l.length ≤ 1000) (f2 f3 f7 f8 : Option V) : ∀ (kk : List Nat) (f6 : Option V), (∀ k ∈ kk, k ≤ l.length) → ∃ g6,
    For X 20 (fun _ => true) (st1 6) loop8 (kk.map fun (q : Nat) => V.int (q : Int)) (mL l f2 f3 (some (.ref kt)) (some (.str (l.flatMap code))) f6 f7 f8) h .next (mL l f2 f3 (some (.ref kt)) (some (.str (l.flatMap code))) g6 f7 f8) h
  | [], f6, _ => ⟨f6, f_nil rfl⟩
  | k :: kk, f6, hk => by
    obtain ⟨g6, ih⟩ := part_loop T w hl f2 f3 f7 f8 kk (some (.int (k : Int))) fun q hq => hk q (.tail _ hq)
    refine ⟨g6, f_cons rfl rfl (x_cons (s_ite_f (u := .bool false) (e_cmp (e_bin (e_call (a_cons (ev_same (e_slice (e_loc rfl) o_no (o_yes (e_loc rfl))) (by rw [slc_to (hk k (.head _))])) (a_cons (e_loc rfl) a_nil)) (T.esc 18 (l.take k) h (by rw [List.length_take]; omega) w)) (e_call (a_cons (ev_same (e_slice (e_loc rfl) (o_yes (e_loc rfl)) o_no) (by rw [slc_from (hk k (.head _))])) (a_cons (e_loc rfl) a_nil)) (T.esc 18 (l.drop k) h (by rw [List.length_drop]; omega) w)) (add_str ?_)) (e_loc rfl) ?_) rfl x_nil) x_nil) ih⟩
    · have h1 := flat_len T.len (l.take k)
      have h2 := flat_len T.len (l.drop k)
      rw [List.length_take] at h1
      rw [List.length_drop] at h2
      unfold LIM
      omega
    · rw [← flat_split k]
      show some (!decide (l.flatMap code = l.flatMap code)) = _
      rw [decide_eq_true rfl]; rfl
end
end Mine

end

section
open PySem
namespace Mine

noncomputable def rest6 : MSs := match b_law with
  | .cons _ (.cons _ (.cons _ (.cons _ (.cons _ r)))) => r
  | _ => .nil
noncomputable def rest13 : MSs := match rest6 with
  | .cons _ (.cons _ (.cons _ (.cons _ (.cons _ (.cons _ (.cons _ r)))))) => r
  | _ => .nil
noncomputable def textElt : ME := match b_law with
  | .cons (.asg _ _ (.meth _ _ _ (.cons (.comp e _ _ _ _ _ _) _) _) _) _ => e
  | _ => .cst .none ⟨0, 0, 0, 0⟩
section
variable {X : Hp} {xs : List Int}
abbrev m0 : M := [some (.ext 0), none, none, none, none, none, none, none, none, none]
theorem text_loop {k0 : Nat} {vs0 : List V} : ∀ (ys : List Int) (h : Hp), h[k0]? = some (.list vs0) → ∃ (l : List Nat) (h' : Hp), l.length = ys.length ∧ Grow h h' ∧ Cm X 20 (fun h' => decide (h'[k0]? = some (.list vs0))) textElt 9 .no (ys.map fun i => V.int i) m0 h (l.map fun c => V.str [c]) h'
  | [], h, hk => ⟨[], h, rfl, Grow.refl h, k_nil (decide_eq_true hk)⟩
  | y :: ys, h, hk => by
    obtain ⟨c, hc⟩ := c_sign (X := X) (d := 19) (h := h) (i := (y.natAbs : Int))
    obtain ⟨l, h', h1, h2, h3⟩ := text_loop ys (h ++ [.list sgs]) (Grow.app.get hk)
    exact ⟨c :: l, h', by simp [h1], Grow.app.trans h2, k_all (decide_eq_true hk) (e_call (a_cons (e_bcall (a_cons (e_loc rfl) a_nil) rfl) a_nil) hc) h3⟩
theorem strsOf_one : ∀ l : List Nat, strsOf (l.map fun c => V.str [c]) = some (l.map fun c => [c])
  | [] => rfl
  | c :: l => by
    show (strsOf (l.map fun c => V.str [c])).map ([c] :: ·) = _
    rw [strsOf_one l]; rfl
theorem flat_ones (l : List Nat) : (l.map fun c => [c]).flatten = l := by
  induction l with
  | nil => rfl
  | cons c l ih => rw [List.map_cons, List.flatten_cons, ih]; rfl
theorem join_ones {h : Hp} {k : Nat} {l : List Nat} (hk : h[k]? = some (.list (l.map fun c => V.str [c]))) (hl : l.length ≤ 1000) : meth X .join (C0.str "").val [.ref k] h = some (.str l, h) := by
  show (if lit "" = [] then (match h[k]? with | some (O.list vs) => (strsOf vs).bind fun xs => if xs.flatten.length ≤ LIM then some (V.str xs.flatten, h) else none | _ => none) else none) = _
  rw [if_pos (show lit "" = [] from rfl), hk]
  show (strsOf (l.map fun c => V.str [c])).bind _ = _
  rw [strsOf_one, Option.bind_some, flat_ones, if_pos (by unfold LIM; omega)]
theorem take16 (xs : List Int) : ∃ ys : List Int, slcL (xs.map fun i => V.int i) none (some 16) = ys.map (fun i => V.int i) ∧ ys.length ≤ 16 ∧ (xs = [] → ys = []) := by
  refine ⟨xs.take (clamp 16 (xs.map fun i => V.int i).length), ?_, ?_, fun e => by subst e; simp⟩
  · show ((xs.map fun i => V.int i).take (clamp 16 (xs.map fun i => V.int i).length)).drop 0 = _
    rw [List.drop_zero, List.map_take]
  · rw [List.length_take]
    have : clamp 16 (xs.map fun i => V.int i).length ≤ 16 := by
      unfold clamp
      rw [if_neg (by decide)]
      exact Nat.min_le_left _ _
    omega

theorem law_rest (xo : XOk X xs) (hx : xs ≠ []) (hx2 : xs.length ≤ 1000) (H : Hp) (l : List Nat) (hl : l.length ≤ 100) : ∃ m' h', Ex X 20 (tail3 rest6) (mL l none none none none none none none) H (.ret (.bool true)) m' h' := by
  obtain ⟨code, es, ks, kn, kt, h1, T, run⟩ := run_tabs xo H l
  obtain ⟨rp, ep, sz, hsz, S⟩ := T.size
  obtain ⟨ep2, hnm⟩ := T.names
  have hW := flat_len T.len l
  -- the first slices' call
  have ce := c_ends (X := X) (d := 19) hsz S (l := l) (by omega)
  have w1 : Grow h1 (h1 ++ [.list (endl code l l.length)]) := Grow.app
  have s1 : Sl X code es l h1.length kn ep2 xs (h1 ++ [.list (endl code l l.length)]) := ⟨T.K, T.hes, by omega, by omega, append_at, w1.get hnm, xo.s⟩
  obtain ⟨h2, w2, c1⟩ := c_slices (d := 17) s1 hx hx2
  have w12 := w1.trans w2
  obtain ⟨g6, hloop⟩ := part_loop T w12 (by omega) (some (.ref ks)) (some (.ref kn)) none none (l := l) (List.range l.length) none fun k hk => Nat.le_of_lt (List.mem_range.mp hk)
  obtain ⟨code', es', ks', kn', h3, B, run2⟩ := run_quoted xo h2 l (by omega) (some (.ref ks)) (some (.ref kn)) (some (.ref kt)) (some (.str (l.flatMap code))) g6
  obtain ⟨rp', ep', sz', hsz', S'⟩ := B.size
  obtain ⟨ep2', hnm'⟩ := B.names
  have hW' := flat_len B.len l
  have ce' := c_ends (X := X) (d := 19) hsz' S' (l := l) (by omega)
  have w3 : Grow h3 (h3 ++ [.list (endl code' l l.length)]) := Grow.app
  have s3 : Sl X code' es' l h3.length kn' ep2' xs (h3 ++ [.list (endl code' l l.length)]) := ⟨B.K, B.hes, by omega, by omega, append_at, w3.get hnm', xo.s⟩
  obtain ⟨h4, w4, c3⟩ := c_slices (d := 17) s3 hx hx2
  obtain ⟨q, hq⟩ : ∃ q, q = if 34 ∈ l ∧ 39 ∉ l then 39 else 34 := ⟨_, rfl⟩
  have hwr := B.wr
  rw [← hq] at hwr
  refine ⟨mL l (some (.ref ks')) (some (.ref kn')) (some (.ref kt)) (some (.str (l.flatMap code))) g6 (some (.str (W3 l))) (some (.str [q])), h4, run _ _ _ _ ?_⟩
  refine x_cons (s_asg (e_call (a_cons (e_loc rfl) (a_cons (e_loc rfl) a_nil)) (T.esc 18 l h1 (by omega) (Grow.refl _)))) ?_
  refine x_cons (s_ite_f (u := .bool false) (e_not (c := true) (e_call (a_cons (e_loc rfl) (a_cons (e_loc rfl) (a_cons (e_call (a_cons (e_loc rfl) (a_cons (e_loc rfl) a_nil)) ce) (a_cons (e_loc rfl) (a_cons (e_loc rfl) a_nil))))) c1) rfl) rfl x_nil) ?_
  refine x_cons (s_range (k := ((l.length : Nat) : Int)) (e_bcall (a_cons (e_loc rfl) a_nil) len_str) (by unfold LIM; omega) (by rw [Int.toNat_natCast]; exact hloop)) ?_
  refine run2 rest13 _ _ _ ?_
  -- the mark
  refine x_cons (m1 := mL l (some (.ref ks')) (some (.ref kn')) (some (.ref kt)) (some (.str (l.flatMap code))) g6 (some (.str (W3 l))) (some (.str [q]))) (h1 := h3) (s_asg ?_) ?_
  · have e34 : ∀ p1 p2 p3 : Pos, Ev X 20 (.cmp .In (.cst (.str "\"") p1) (.loc 1 p2) p3) (mL l (some (.ref ks')) (some (.ref kn')) (some (.ref kt)) (some (.str (l.flatMap code))) g6 (some (.str (W3 l))) none) h3 (.bool (decide (34 ∈ l))) h3 := fun _ _ _ => e_in (c := 34) rfl (e_loc rfl)
    have e39 : ∀ p1 p2 p3 : Pos, Ev X 20 (.cmp .NotIn (.cst (.str "'") p1) (.loc 1 p2) p3) (mL l (some (.ref ks')) (some (.ref kn')) (some (.ref kt)) (some (.str (l.flatMap code))) g6 (some (.str (W3 l))) none) h3 (.bool (!decide (39 ∈ l))) h3 := fun _ _ _ => e_cmp e_cst (e_loc rfl) (by
      show some (!inStr (lit "'") l) = _
      rw [show lit "'" = [39] from rfl, inStr_one])
    by_cases h34 : 34 ∈ l
    · rw [decide_eq_true h34] at e34
      by_cases h39 : 39 ∈ l
      · rw [decide_eq_true h39] at e39
        rw [hq, if_neg (by simp [h39])]
        exact e_ite_f (e_and_t (e34 _ _ _) rfl (e39 _ _ _)) rfl e_cst
      · rw [decide_eq_false h39] at e39
        rw [hq, if_pos ⟨h34, h39⟩]
        exact e_ite_t (e_and_t (e34 _ _ _) rfl (e39 _ _ _)) rfl e_cst
    · rw [decide_eq_false h34] at e34
      rw [hq, if_neg (by simp [h34])]
      exact e_ite_f (e_and_f (e34 _ _ _) rfl) rfl e_cst
  have same : cmpop .NotEq (.str [q]) (.str [q]) = some false := by
    show some (!decide ([q] = [q])) = _
    rw [decide_eq_true rfl]; rfl
  refine x_cons (s_ite_f (u := .bool false) (e_or_f (e_cmp (e_idx (e_loc rfl) e_cst (idx_strc (c := q) (Int.le_refl 0) (by rw [hwr]; rfl))) (e_loc rfl) same) rfl (e_cmp (e_idx (e_loc rfl) (e_neg (i := 1) e_cst) (idx_strl (c := q) (by rw [hwr]; simp))) (e_loc rfl) same)) rfl x_nil) ?_
  refine x_ret (s_ret (e_call (a_cons (e_loc rfl) (a_cons (ev_same (e_slice (e_loc rfl) (o_yes e_cst) (o_yes (e_neg (i := 1) e_cst))) (by rw [hwr]; exact congrArg V.str slc_mid)) (a_cons (e_call (a_cons (e_loc rfl) (a_cons (e_loc rfl) a_nil)) ce') (a_cons (e_loc rfl) (a_cons (e_loc rfl) a_nil))))) c3))

theorem law_runs (xo : XOk X xs) (hx2 : xs.length ≤ 63) : ∃ m' h', Ex X 20 b_law m0 [] (.ret (.bool true)) m' h' := by
  obtain ⟨ys, hys, hyl, hy0⟩ := take16 xs
  obtain ⟨l, h1, hll, w1, ct⟩ := text_loop (X := X) (k0 := 0) (vs0 := ys.map fun i => V.int i) ys [.list (ys.map fun i => V.int i)] rfl
  have et : Ev X 20 (.meth .join (.cst (.str "") ⟨57, 11, 57, 13⟩) ⟨57, 11, 57, 18⟩ (.cons (.comp textElt 9 ⟨57, 42, 57, 43⟩ (.slice (.loc 0 ⟨57, 47, 57, 53⟩) .no (.yes (.cst (.int 16) ⟨57, 55, 57, 57⟩)) ⟨57, 54, 57, 57⟩ ⟨57, 47, 57, 58⟩) .no (scp [(".0", .local), ("x", .local), ("_law_sign", .globalImplicit), ("abs", .globalImplicit)]) ⟨57, 19, 57, 59⟩) .nil) ⟨57, 11, 57, 60⟩) m0 [] (.str l) (h1 ++ [.list (l.map fun c => V.str [c])]) := by
    refine e_meth e_cst rfl (a_cons (e_comp (e_sliceL (e_loc rfl) o_no (o_yes e_cst) xo.s) (it_ref append_at) ?_ ?_) a_nil) (join_ones append_at (by omega))
    · rw [hys, List.length_map]; unfold LIM; omega
    · rw [hys]
      exact ct
  by_cases hx : xs = []
  · have hl : l = [] := by
      have := hy0 hx
      subst this
      exact List.length_eq_zero_iff.mp hll
    subst hl
    refine ⟨m0.set 1 (some (.str [])), h1 ++ [.list (([] : List Nat).map fun c => V.str [c])] ++ [.dict true 3 (encd whites)], x_cons (s_asg et) (x_ret (s_ite_t (u := .bool true) (ev_same (e_isNil (e_loc rfl) (show obj X _ (.ext 0) = some (.list (xs.map fun i => V.int i)) from xo.s)) (by rw [hx]; rfl)) rfl (x_ret (s_ret ?_))))⟩
    refine e_and3 (e_cmp (e_call (a_cons (e_loc rfl) a_nil) (c_escape (d := 18) xo (Nat.zero_le _))) e_cst rfl) rfl (e_cmp (e_call (a_cons (e_loc rfl) a_nil) (c_quoteattr (d := 17) xo (Nat.zero_le _))) e_cst rfl) rfl (e_cmp (e_call (a_cons (e_loc rfl) a_nil) (c_unescape (d := 18) xo (Nat.zero_le _))) e_cst rfl)
  · obtain ⟨m', h', e⟩ := law_rest xo hx (by omega) (h1 ++ [.list (l.map fun c => V.str [c])]) l (by omega)
    refine ⟨m', h', x_cons (s_asg et) (x_cons (s_ite_f (u := .bool false) (ev_same (e_isNil (e_loc rfl) (show obj X _ (.ext 0) = some (.list (xs.map fun i => V.int i)) from xo.s)) (by cases xs with | nil => exact absurd rfl hx | cons => rfl)) rfl x_nil) e)⟩
end
noncomputable def X0 (xs : List Int) : Hp := [.list (xs.map fun i => V.int i), .dict true 0 [], .dict true 0 [], .dict true 0 []]
theorem law_true (xs : List Int) (hx : xs.length ≤ 63) : ∃ n m' h', (Mi funs (X0 xs) n 20).ex b_law m0 [] = some (.ret (.bool true), m', h') := by
  obtain ⟨m', h', N, hN⟩ := law_runs (X := X0 xs) (xs := xs) ⟨rfl, rfl, rfl, rfl⟩ hx
  exact ⟨N, m', h', hN N (Nat.le_refl _)⟩
end Mine

end

section
open PySem PySem.Calls PyProof.Rows PySem.W
set_option maxRecDepth 100000
set_option maxHeartbeats 8000000
namespace Mine
open_top hd1 for PySem.Challenge.rw_at0008_03

/-- what the heap holds at the law's call -/
noncomputable def fr (P : Params) (a : Addr) : Obj := ((hd1.heap_39 P).lookup a).getD default
noncomputable def fdOf (P : Params) (a : Addr) : FuncData := match (fr P a).data with | .func fd => fd | _ => default

theorem fr_at {P : Params} {h : Heap} (K : (hd1.heap_39 P).In h) (a : Addr) (e : ((hd1.heap_39 P).lookup a).isSome = true) : h.get? a = some (fr P a) := by
  refine K a _ ?_
  unfold fr
  cases hh : (hd1.heap_39 P).lookup a with
  | none => rw [hh] at e; cases e
  | some o => rfl

noncomputable def cx (w : World) (G : Heap) (lst : Addr) (xs : List Int) (mg mb : Str → Option Value) (prog : Program) : Cx :=
  { prog := prog, w := w, L := ⟨[21, 30, 39, 48, 55, 62, 67, 72], [lst, 22, 31, 40]⟩, F := funs, X := [.list (xs.map fun i => V.int i), .dict true 0 [], .dict true 0 [], .dict true 0 []], G := G, globs := fnames, mg := mg, mb := mb }

theorem code_rec {P : Params} {h : Heap} (K : (hd1.heap_39 P).In h) (a c : Addr) (q : Str) (e : ((hd1.heap_39 P).lookup c).isSome = true) (hc : (fdOf P a).code = .ref c) (hq : (match (fr P c).data with | .fields vs => (match vs[1]? with | some (Value.str q' t) => q' == q | _ => false) | _ => false) = true) : h.CodeRec (fdOf P a).code q := by
  have h1 := fr_at K c e
  revert hq h1
  generalize fr P c = o
  intro hq h1
  split at hq
  · rename_i vs hd
    split at hq
    · rename_i q' t hv
      rw [beq_iff_eq.mp hq] at hv
      exact ⟨c, o, vs, t, hc, h1, hd, hv⟩
    · cases hq
  · cases hq

theorem ln1 {α : Type} : ∀ {xs : List α}, xs.length = 1 → ∃ a, xs = [a]
  | [a], _ => ⟨a, rfl⟩
theorem ln2 {α : Type} : ∀ {xs : List α}, xs.length = 2 → ∃ a b, xs = [a, b]
  | [a, b], _ => ⟨a, b, rfl⟩
theorem ln5 {α : Type} : ∀ {xs : List α}, xs.length = 5 → ∃ a b c d e, xs = [a, b, c, d, e]
  | [a, b, c, d, e], _ => ⟨a, b, c, d, e, rfl⟩

section
variable {w : World} {G : Heap} {lst : Addr} {xs : List Int} {mg mb : Str → Option Value} {prog : Program}

/-- what can be looked at -/
noncomputable def looks (fn : Fn) (fd : FuncData) (N : Nm) : Bool :=
  fn.body.ok N fd.scope && decide ((fd.scope.names.map (·.1)).Nodup) && fd.closure.isEmpty && ((N.slots.take fn.np).all fun x => decide (fd.scope.names.lookup x = some .local ∨ fd.scope.names.lookup x = some .cell)) && decide (fd.globals = mainGlobals) && decide (fd.builtins = builtinsNs) &&
  !fd.scope.isCoroutine && !fd.scope.isGenerator && decide (fd.scope.kind = .function) && decide (N.globs = fnames) && decide N.slots.Nodup && decide (N.slots.length = fn.nslots) && decide (fn.np ≤ fn.nslots)

theorem fnOk_of {a : Addr} {fn : Fn} {N : Nm} {c : Addr} (K : (hd1.heap_39 w.params).In G) (hl : looks fn (fdOf w.params a) N = true) (ha : ((hd1.heap_39 w.params).lookup a).isSome = true) (hd : (fr w.params a).data = .func (fdOf w.params a)) (hb : (fdOf w.params a).body = .stmts (fn.body.back N))
    (e : ((hd1.heap_39 w.params).lookup c).isSome = true) (hc : (fdOf w.params a).code = .ref c) (hq : (match (fr w.params c).data with | .fields vs => (match vs[1]? with | some (Value.str q' t) => q' == (fdOf w.params a).qualname | _ => false) | _ => false) = true)
    (bind : ∀ (s : Shared) (xs : List Value), (∀ b o, G.get? b = some o → s.heap.get? b = some o) → xs.length = fn.np → BindsTo s (fdOf w.params a) ⟨xs, []⟩ ((N.slots.take fn.np).zip xs))
    (bindD : ∀ j, fn.dflt = some j → ∃ x, VR (cx w G lst xs mg mb prog).L [] 0 (.ext j) x ∧ ∀ (s : Shared) (xs : List Value), (∀ b o, G.get? b = some o → s.heap.get? b = some o) → xs.length + 1 = fn.np → BindsTo s (fdOf w.params a) ⟨xs, []⟩ ((N.slots.take fn.np).zip (xs ++ [x]))) :
    FnOk (cx w G lst xs mg mb prog) fn a (fr w.params a) (fdOf w.params a) N := by
  unfold looks at hl
  simp only [Bool.and_eq_true, decide_eq_true_eq, List.all_eq_true, Bool.not_eq_true', List.isEmpty_iff] at hl
  obtain ⟨⟨⟨⟨⟨⟨⟨⟨⟨⟨⟨⟨h1, h2⟩, hcl⟩, h3⟩, h4⟩, h5⟩, h6⟩, h7⟩, h8⟩, h9⟩, h10⟩, h11⟩, h12⟩ := hl
  exact ⟨fr_at K a ha, hd, hb, h1, code_rec K a c _ e hc hq, h2, hcl, h3, h4, h5, h6, h7, h8, h9, h10, h11, h12, bind, bindD⟩

theorem fn_dict_replace_saxutils (K : (hd1.heap_39 w.params).In G) : FnOk (cx w G lst xs mg mb prog) ⟨2, 4, b_dict_replace_saxutils, .none⟩ 21 (fr w.params 21) (fdOf w.params 21) nm_dict_replace_saxutils :=
  fnOk_of (c := 20) K (by kernel_rfl) rfl rfl rfl rfl rfl rfl
    (fun s xs hk hl => by obtain ⟨a, b, rfl⟩ := ln2 hl; exact BindsTo.of_eq rfl) (fun j hj => by cases hj)
theorem fn_escape (K : (hd1.heap_39 w.params).In G) : FnOk (cx w G lst xs mg mb prog) ⟨2, 2, b_escape, some 1⟩ 30 (fr w.params 30) (fdOf w.params 30) nm_escape :=
  fnOk_of (c := 29) K (by kernel_rfl) rfl rfl rfl rfl rfl rfl
    (fun s xs hk hl => by obtain ⟨a, b, rfl⟩ := ln2 hl; exact BindsTo.of_defaults (T := 23) rfl (hk _ _ (fr_at K 23 rfl)) rfl rfl rfl)
    (fun j hj => by cases hj; exact ⟨.ref 22, ⟨22, rfl, rfl⟩, fun s xs hk hl => by obtain ⟨a, rfl⟩ := ln1 (Nat.succ.inj hl); exact BindsTo.of_defaults (T := 23) rfl (hk _ _ (fr_at K 23 rfl)) rfl rfl rfl⟩)
theorem fn_unescape (K : (hd1.heap_39 w.params).In G) : FnOk (cx w G lst xs mg mb prog) ⟨2, 2, b_unescape, some 2⟩ 39 (fr w.params 39) (fdOf w.params 39) nm_unescape :=
  fnOk_of (c := 38) K (by kernel_rfl) rfl rfl rfl rfl rfl rfl
    (fun s xs hk hl => by obtain ⟨a, b, rfl⟩ := ln2 hl; exact BindsTo.of_defaults (T := 32) rfl (hk _ _ (fr_at K 32 rfl)) rfl rfl rfl)
    (fun j hj => by cases hj; exact ⟨.ref 31, ⟨31, rfl, rfl⟩, fun s xs hk hl => by obtain ⟨a, rfl⟩ := ln1 (Nat.succ.inj hl); exact BindsTo.of_defaults (T := 32) rfl (hk _ _ (fr_at K 32 rfl)) rfl rfl rfl⟩)
theorem fn_quoteattr (K : (hd1.heap_39 w.params).In G) : FnOk (cx w G lst xs mg mb prog) ⟨2, 2, b_quoteattr, some 3⟩ 48 (fr w.params 48) (fdOf w.params 48) nm_quoteattr :=
  fnOk_of (c := 47) K (by kernel_rfl) rfl rfl rfl rfl rfl rfl
    (fun s xs hk hl => by obtain ⟨a, b, rfl⟩ := ln2 hl; exact BindsTo.of_defaults (T := 41) rfl (hk _ _ (fr_at K 41 rfl)) rfl rfl rfl)
    (fun j hj => by cases hj; exact ⟨.ref 40, ⟨40, rfl, rfl⟩, fun s xs hk hl => by obtain ⟨a, rfl⟩ := ln1 (Nat.succ.inj hl); exact BindsTo.of_defaults (T := 41) rfl (hk _ _ (fr_at K 41 rfl)) rfl rfl rfl⟩)
theorem fn_law_sign (K : (hd1.heap_39 w.params).In G) : FnOk (cx w G lst xs mg mb prog) ⟨1, 1, b_law_sign, .none⟩ 55 (fr w.params 55) (fdOf w.params 55) nm_law_sign :=
  fnOk_of (c := 54) K (by kernel_rfl) rfl rfl rfl rfl rfl rfl
    (fun s xs hk hl => by obtain ⟨a, rfl⟩ := ln1 hl; exact BindsTo.of_eq rfl) (fun j hj => by cases hj)
theorem fn_law_ends (K : (hd1.heap_39 w.params).In G) : FnOk (cx w G lst xs mg mb prog) ⟨2, 4, b_law_ends, .none⟩ 62 (fr w.params 62) (fdOf w.params 62) nm_law_ends :=
  fnOk_of (c := 61) K (by kernel_rfl) rfl rfl rfl rfl rfl rfl
    (fun s xs hk hl => by obtain ⟨a, b, rfl⟩ := ln2 hl; exact BindsTo.of_eq rfl) (fun j hj => by cases hj)
theorem fn_law_slices (K : (hd1.heap_39 w.params).In G) : FnOk (cx w G lst xs mg mb prog) ⟨5, 15, b_law_slices, .none⟩ 67 (fr w.params 67) (fdOf w.params 67) nm_law_slices :=
  fnOk_of (c := 66) K (by kernel_rfl) rfl rfl rfl rfl rfl rfl
    (fun s xs hk hl => by obtain ⟨a, b, c, d, e, rfl⟩ := ln5 hl; exact BindsTo.of_eq rfl) (fun j hj => by cases hj)
theorem fn_law (K : (hd1.heap_39 w.params).In G) : FnOk (cx w G lst xs mg mb prog) ⟨1, 10, b_law, .none⟩ 72 (fr w.params 72) (fdOf w.params 72) nm_law :=
  fnOk_of (c := 71) K (by kernel_rfl) rfl rfl rfl rfl rfl rfl
    (fun s xs hk hl => by obtain ⟨a, rfl⟩ := ln1 hl; exact BindsTo.of_eq rfl) (fun j hj => by cases hj)

theorem fns_ok (K : (hd1.heap_39 w.params).In G) : ∀ (g : Nat) (fn : Fn), (cx w G lst xs mg mb prog).F[g]? = some fn → ∃ a o fd N, (cx w G lst xs mg mb prog).L.fa[g]? = some a ∧ FnOk (cx w G lst xs mg mb prog) fn a o fd N := by
  intro g fn e
  have hg : g < 8 := by
    rcases Nat.lt_or_ge g 8 with h | h
    · exact h
    · have e2 : funs[g]? = some fn := e
      rw [List.getElem?_eq_none (show funs.length ≤ g from h)] at e2
      cases e2
  match g, hg, e with
  | 0, _, e => cases e; exact ⟨_, _, _, _, rfl, fn_dict_replace_saxutils K⟩
  | 1, _, e => cases e; exact ⟨_, _, _, _, rfl, fn_escape K⟩
  | 2, _, e => cases e; exact ⟨_, _, _, _, rfl, fn_unescape K⟩
  | 3, _, e => cases e; exact ⟨_, _, _, _, rfl, fn_quoteattr K⟩
  | 4, _, e => cases e; exact ⟨_, _, _, _, rfl, fn_law_sign K⟩
  | 5, _, e => cases e; exact ⟨_, _, _, _, rfl, fn_law_ends K⟩
  | 6, _, e => cases e; exact ⟨_, _, _, _, rfl, fn_law_slices K⟩
  | 7, _, e => cases e; exact ⟨_, _, _, _, rfl, fn_law K⟩

end
end Mine

end

section
open PySem PySem.Calls PyProof.Rows PySem.W
set_option maxRecDepth 100000
set_option maxHeartbeats 8000000
namespace Mine
theorem ints_all2 {L : Pl} {β : List Addr} {T : Nat} : ∀ {vals : List Value} {xs : List Int}, IntsAre vals xs → All2 (VR L β T) (xs.map fun i => V.int i) vals := by
  intro vals xs h
  induction h with
  | nil => trivial
  | cons n t h ih => exact ⟨⟨t, rfl⟩, ih⟩
section
variable {w : World} {G : Heap} {lst : Addr} {xs : List Int} {mg mb : Str → Option Value} {prog : Program}
theorem ns_at {h : Heap} {a : Addr} {f : Str → Option Value} {o : Obj} {es : Array DictEntry} {ep : Nat} (n : h.Ns a f) (ho : h.get? a = some o) (hd : o.data = .dict es ep) (x : Str) : f x = nsFind es x := by
  obtain ⟨o', es', ep', ho', hd', _, e⟩ := n
  rw [ho] at ho'
  cases ho'
  rw [hd] at hd'
  cases hd'
  exact (e x).symm

noncomputable def gArr (P : Params) : Array DictEntry := match (fr P 3).data with | .dict es _ => es | _ => #[]
theorem key_at (K : (hd1.heap_39 w.params).In G) (hg : G.Ns mainGlobals mg) (x : Str) : mg x = nsFind (gArr w.params) x := ns_at hg (fr_at K 3 rfl) (es := gArr w.params) (ep := 17) rfl x
theorem cx_ok (K : (hd1.heap_39 w.params).In G) (hn : G.NoLimit) (hg : G.Ns mainGlobals mg) (hb : G.Ns builtinsNs mb) (hbi : ∀ x : Str, x ≠ "__name__" → mb x = bootBuiltins x) {vals : List Value} (hl : G.IsList lst vals.toArray) (hi : IntsAre vals xs) (hx : xs.length ≤ 63)
     : (cx w G lst xs mg mb prog).Ok where
  nolimit := hn
  booked := ⟨fun _ => none, ⟨_, #[], 0, fr_at K 2 rfl, rfl, (fun e he => by simp at he), fun _ => rfl⟩, rfl⟩
  g := hg
  b := hb
  fn := by
    intro i a e
    have key := key_at K hg
    have hi : i < 8 := by
      rcases Nat.lt_or_ge i 8 with h | h
      · exact h
      · have e2 : ([21, 30, 39, 48, 55, 62, 67, 72] : List Addr)[i]? = some a := e
        rw [List.getElem?_eq_none (show ([21, 30, 39, 48, 55, 62, 67, 72] : List Addr).length ≤ i from h)] at e2
        cases e2
    match i, hi, e with
    | 0, _, e => cases e; exact ⟨(key _).trans (by kernel_rfl), _, _, fr_at K 21 rfl, rfl⟩
    | 1, _, e => cases e; exact ⟨(key _).trans (by kernel_rfl), _, _, fr_at K 30 rfl, rfl⟩
    | 2, _, e => cases e; exact ⟨(key _).trans (by kernel_rfl), _, _, fr_at K 39 rfl, rfl⟩
    | 3, _, e => cases e; exact ⟨(key _).trans (by kernel_rfl), _, _, fr_at K 48 rfl, rfl⟩
    | 4, _, e => cases e; exact ⟨(key _).trans (by kernel_rfl), _, _, fr_at K 55 rfl, rfl⟩
    | 5, _, e => cases e; exact ⟨(key _).trans (by kernel_rfl), _, _, fr_at K 62 rfl, rfl⟩
    | 6, _, e => cases e; exact ⟨(key _).trans (by kernel_rfl), _, _, fr_at K 67 rfl, rfl⟩
    | 7, _, e => cases e; exact ⟨(key _).trans (by kernel_rfl), _, _, fr_at K 72 rfl, rfl⟩
  fns := by
    intro i hi
    match i, hi with
    | 0, _ => exact ⟨_, rfl⟩
    | 1, _ => exact ⟨_, rfl⟩
    | 2, _ => exact ⟨_, rfl⟩
    | 3, _ => exact ⟨_, rfl⟩
    | 4, _ => exact ⟨_, rfl⟩
    | 5, _ => exact ⟨_, rfl⟩
    | 6, _ => exact ⟨_, rfl⟩
    | 7, _ => exact ⟨_, rfl⟩
  bi := by
    intro n
    have key := key_at K hg
    cases n <;> exact ⟨(key _).trans (by kernel_rfl), (hbi _ (by decide +kernel)).trans (by decide +kernel)⟩
  ext := by
    intro j o e
    have empty : ∀ a : Addr, G.get? a = some { cls := .type "dict", data := .dict #[] } → OR w ⟨[21, 30, 39, 48, 55, 62, 67, 72], [lst, 22, 31, 40]⟩ [] 0 (.dict true 0 []) { cls := .type "dict", data := .dict #[] } :=
      fun a _ => ⟨#[], rfl, trivial, by simp, by simp⟩
    match j, e with
    | 0, e =>
      cases e
      obtain ⟨⟨cl, d, da, sl⟩, ho, rfl, n, rfl⟩ := hl
      refine ⟨lst, _, rfl, ho, ⟨_, n, d, sl, rfl, ?_, by rw [List.length_map]; unfold LIM; omega⟩, fun z => absurd rfl (z _)⟩
      exact ints_all2 hi
    | 1, e => cases e; exact ⟨22, _, rfl, fr_at K 22 rfl, empty 22 (fr_at K 22 rfl), fun _ => by decide⟩
    | 2, e => cases e; exact ⟨31, _, rfl, fr_at K 31 rfl, empty 31 (fr_at K 31 rfl), fun _ => by decide⟩
    | 3, e => cases e; exact ⟨40, _, rfl, fr_at K 40 rfl, empty 40 (fr_at K 40 rfl), fun _ => by decide⟩
    | j + 4, e => exact absurd e (by intro z; cases z)
end
end Mine

end

section
open PySem PySem.Calls PyProof.Rows PySem.W
set_option maxRecDepth 100000
set_option maxHeartbeats 8000000
namespace Mine

theorem law_walk {w : World} {prog : Program} {G : Heap} {lst : Addr} {xs : List Int} {mg mb : Str → Option Value} {vals : List Value} {sc : Scope} {env : Env} {A : Around} {s : Shared} {Q : Flow → Shared → Prop} {E : Value → Shared → Prop} {n d : Nat} {m' : M} {h' : Hp} {m : Str → Option Value}
    (K : (hd1.heap_39 w.params).In G) (hn : G.NoLimit) (hg : G.Ns mainGlobals mg) (hb : G.Ns builtinsNs mb) (hbi : ∀ x : Str, x ≠ "__name__" → mb x = bootBuiltins x) (hl : G.IsList lst vals.toArray) (hi : IntsAre vals xs) (hx : xs.length ≤ 63)
    (F : Fr G G.objs.size s.heap m) (hm : m = fun x => List.lookup x [(Str.ofString "script", Value.ref lst)]) (ht : 0 < s.toks)
    (hok : b_law.ok nm_law sc = true) (V₀ : EnvOk (cx w G lst xs mg mb prog) nm_law sc env ⟨G.objs.size, [], fun _ => true⟩) (hA : AOk A d)
    (hs : (Mi funs (X0 xs) n d).ex b_law m0 [] = some (.ret (.bool true), m', h'))
    (k : ∀ H' T', (∀ b o, G.get? b = some o → H'.get? b = some o) → Q (.ret (.bool true)) { s with heap := H', toks := T' }) :
    wpAny (model prog w) A (execs (b_law.back nm_law) env) Q E s := by
  have ok0 : (cx w G lst xs mg mb prog).Ok := cx_ok K hn hg hb hbi hl hi hx
  have hnone : G.get? G.objs.size = none := by
    cases e : G.get? G.objs.size with
    | none => rfl
    | some o => exact absurd (Heap.lt_size e) (Nat.lt_irrefl _)
  have gd : Gd w (cx w G lst xs mg mb prog).L G [] s.toks [] s.heap :=
    ⟨rfl, List.nodup_nil, (fun k o a e => by cases e), F.keep, (fun a h => by cases h), ht, ⟨_, fr_at K 3 rfl⟩, (fun a h => by cases h)⟩
  have fm : Frm (cx w G lst xs mg mb prog).L G nm_law [] s.toks m0 ⟨G.objs.size, [], fun _ => true⟩ s.heap := by
    subst hm
    refine ⟨⟨_, F.ns, fun i v hi e1 _ _ => ?_⟩, fun x c hc => (by cases hc), fun a _ h => (by cases h), ?_⟩
    · match i, hi, e1 with
      | 0, _, e1 => cases e1; exact ⟨_, rfl, lst, rfl, rfl⟩
      | 1, _, e1 => cases e1
      | 2, _, e1 => cases e1
      | 3, _, e1 => cases e1
      | 4, _, e1 => cases e1
      | 5, _, e1 => cases e1
      | 6, _, e1 => cases e1
      | 7, _, e1 => cases e1
      | 8, _, e1 => cases e1
      | 9, _, e1 => cases e1
      | i + 10, hi, _ => exact absurd hi (Nat.not_lt.mpr (Nat.le_add_left 10 i))
    · rintro a (rfl | ⟨n, hc⟩)
      · exact hnone
      · cases hc
  refine (snd ok0 (fns_ok K) n d).ex b_law nm_law sc env ⟨G.objs.size, [], fun _ => true⟩ A _ m' [] h' _ hok V₀ hA hs s [] Q E gd fm fun x β' H' T' t x1 g1 f1 r => ?_
  obtain ⟨y, rfl, r⟩ := r
  have hy : y = .bool true := r
  subst hy
  exact k H' T' g1.base

theorem no_cell (l : List (Str × NameKind)) (h : (l.all fun y => !(y.2 == .cell)) = true) (x : Str) : ¬ l.lookup x = some .cell := by
  intro e
  have := List.all_eq_true.mp h _ (mem_of_lookup e)
  simp at this
theorem aok {env : Env} : AOk (callerA.deeper env) 20 :=
  ⟨rfl, by show 1 + claimMargin + 1 + 20 < recursionLimit; decide +kernel, by show 4 + 3 + 3 * 20 + 100 < cLine; decide +kernel⟩

theorem law_top (plain : ∀ xs : List Int, xs.length ≤ 63 → ∃ n m' h', (Mi funs (X0 xs) n 20).ex b_law m0 [] = some (.ret (.bool true), m', h')) : PySem.Challenge.rw_at0008_03.Holds := hd1 (by
  k_go0
  rename_i w s₀ s₁ mg mb G Y fa o pm doc kV ho hg KX XX VV GL T B TE TW ad1 oo MM a6 a7 hcd xs hs hlay0 hL1 hr1 hl2 p4 p3 lst vals p5 hL ra w1 r0 hI hr hc1 hc2 K0 hD h1 F N0
  clear hcd hD
  have hx : xs.length ≤ 63 := by omega
  obtain ⟨n, m', h', e⟩ := plain xs hx
  refine law_walk (G := s₁.heap) (sc := (fdOf w.params 72).scope) (m := _) KX T.nolimit T.g T.b T.builtins hL hI hx F rfl (Nat.succ_pos _) (by kernel_rfl) ⟨rfl, rfl, rfl, rfl, fun _ _ => rfl, fun x hx => absurd hx (no_cell _ (by kernel_rfl) x), fun _ _ => rfl, fun _ _ _ h => by (cases h), rfl, rfl, rfl, by decide +kernel⟩ aok e fun H' T' hk => ?_
  refine ⟨.inl ⟨_, _, _, rfl, raisesW_false ?_, .bool true, ?_, unshared_nil⟩, hk, rfl, hg⟩
  · wrow_none_raised
  · wrow_post)
end Mine

end

open PySem PySem.W PyProof.Rows
set_option maxRecDepth 100000 in
set_option maxHeartbeats 8000000 in
theorem PySem.Challenge.cw_at0008_03_holds : PySem.Challenge.rw_at0008_03.Holds := by
  exact Mine.law_top Mine.law_true
