import PyProof.Rows.All
import Wide.All
import OpenK.AllK
import Wide.FinOn
import PySem.Challenge.RW_at0008_01
set_option Elab.async false
set_option autoImplicit false
set_option linter.unusedVariables false
set_option linter.unusedSimpArgs false
set_option genInjectivity false
set_option genSizeOfSpec false

section
open PySem
namespace Mine
set_option genInjectivity false
set_option genSizeOfSpec false

/-- constants of the small language -/
inductive C0 where
  | none
  | bool (b : Bool)
  | int (i : Int)
  | str (s : String)

/-- a written text's signs -/
noncomputable def lit (s : String) : List Nat := (Str.ofString s).cps.toList

/-- the built-in functions that the texts call -/
inductive Bi where
  | len | abs | min | range | isinstance
noncomputable def Bi.name : Bi → String
  | .len => "len" | .abs => "abs" | .min => "min" | .range => "range" | .isinstance => "isinstance"
/-- the methods that the texts call -/
inductive Mt where
  | replace | items | find | count | append | get | join | index
noncomputable def Mt.name : Mt → String
  | .replace => "replace" | .items => "items" | .find => "find" | .count => "count" | .append => "append" | .get => "get" | .join => "join" | .index => "index"

mutual
/-- expressions of the small language: what the law's text uses -/
inductive ME where
  | loc (i : Nat) (p : Pos)
  | glob (g : Nat) (p : Pos)
  | cst (c : C0) (p : Pos)
  | bin (op : Operator) (l r : ME) (p : Pos)
  | cmp (op : CmpOp) (l r : ME) (p : Pos)
  | and2 (l r : ME) (p : Pos)
  | or2 (l r : ME) (p : Pos)
  | and3 (l c r : ME) (p : Pos)
  | not (e : ME) (p : Pos)
  | neg (e : ME) (p : Pos)
  | ite (t b o : ME) (p : Pos)
  | idx (e i : ME) (p : Pos)
  | slice (e : ME) (lo hi : MO) (sp p : Pos)
  | call (f : ME) (as : MEs) (p : Pos)
  | bcall (n : Bi) (np : Pos) (as : MEs) (p : Pos)
  | meth (n : Mt) (self : ME) (ap : Pos) (as : MEs) (p : Pos)
  | list (es : MEs) (p : Pos)
  | dict (sp : MO) (ks vs : MEs) (p : Pos)
inductive MEs where
  | nil
  | cons (e : ME) (r : MEs)
inductive MO where
  | no
  | yes (e : ME)
end

mutual
inductive MS where
  | asg (i : Nat) (tp : Pos) (e : ME) (p : Pos)
  | asg2 (i j : Nat) (tpi tpj tp : Pos) (a b : ME) (vp p : Pos)
  | sets (o i : ME) (tp : Pos) (e : ME) (p : Pos)
  | ite (t : ME) (b o : MSs) (p : Pos)
  | while (t : ME) (b : MSs) (p : Pos)
  | for1 (x : Nat) (xp : Pos) (it : ME) (b : MSs) (p : Pos)
  | rep (s k v d : Nat) (kp vp tp dp ap cp tp2 sp mp k2 v2 rp ap2 p : Pos)
  | ret (e : ME) (p : Pos)
  | expr (e : ME) (p : Pos)
  | brk (p : Pos)
inductive MSs where
  | nil
  | cons (s : MS) (r : MSs)
end

noncomputable def C0.back : C0 → Const
  | .none => .none
  | .bool b => .bool b
  | .int i => .int i
  | .str s => .str (Str.ofString s)

/-- what the small language's program says of the names -/
structure Nm where
  slots : List Str
  globs : List Str

mutual
noncomputable def ME.back (N : Nm) : ME → Expr
  | .loc i p => .Name (N.slots.getD i default) p
  | .glob g p => .Name (N.globs.getD g default) p
  | .cst c p => .Constant c.back 0 p
  | .bin op l r p => .BinOp (l.back N) op (r.back N) p
  | .cmp op l r p => .Compare (l.back N) [op] [r.back N] p
  | .and2 l r p => .BoolOp .And [l.back N, r.back N] p
  | .or2 l r p => .BoolOp .Or [l.back N, r.back N] p
  | .and3 l c r p => .BoolOp .And [l.back N, c.back N, r.back N] p
  | .not e p => .UnaryOp .Not (e.back N) p
  | .neg e p => .UnaryOp .USub (e.back N) p
  | .ite t b o p => .IfExp (t.back N) (b.back N) (o.back N) p
  | .idx e i p => .Subscript (e.back N) (i.back N) p
  | .slice e lo hi sp p => .Subscript (e.back N) (.Slice (lo.back N) (hi.back N) none sp) p
  | .call f as p => .Call (f.back N) (as.back N) [] p
  | .bcall n np as p => .Call (.Name (Str.ofString n.name) np) (as.back N) [] p
  | .meth n self ap as p => .Call (.Attribute (self.back N) (Str.ofString n.name) ap) (as.back N) [] p
  | .list es p => .List (es.back N) p
  | .dict sp ks vs p => match sp with
    | .no => .Dict (ks.backSome N) (vs.back N) p
    | .yes sp => .Dict (none :: ks.backSome N) (sp.back N :: vs.back N) p
noncomputable def MO.back (N : Nm) : MO → Option Expr
  | .no => none
  | .yes e => some (e.back N)
noncomputable def MEs.back (N : Nm) : MEs → List Expr
  | .nil => []
  | .cons e r => e.back N :: r.back N
noncomputable def MEs.backSome (N : Nm) : MEs → List (Option Expr)
  | .nil => []
  | .cons e r => some (e.back N) :: r.backSome N
end

/-- the two arguments of a replace have tokens of their own: written texts -/
noncomputable def repArgs : MEs → Bool
  | .cons (.cst (.str _) _) (.cons (.cst (.str _) _) .nil) => true
  | _ => false
noncomputable def MEs.len : MEs → Nat
  | .nil => 0
  | .cons _ r => r.len + 1
noncomputable def C0.short : C0 → Bool
  | .str x => decide ((lit x).length ≤ 1000)
  | _ => true
noncomputable def MEs.short : MEs → Bool
  | .nil => true
  | .cons (.cst c _) r => c.short && r.short
  | .cons _ r => r.short
noncomputable def ME.notCall : ME → Bool
  | .call _ _ _ => false
  | .bcall _ _ _ _ => false
  | .meth _ _ _ _ _ => false
  | _ => true
noncomputable def ME.isName : ME → Bool
  | .loc _ _ => true
  | .glob _ _ => true
  | _ => false
noncomputable def MEs.keys : MEs → List (List Nat)
  | .cons (.cst (.str k) _) r => lit k :: r.keys
  | _ => []
noncomputable def constPairs : MEs → MEs → Bool
  | .nil, .nil => true
  | .cons (.cst (.str _) _) ks, .cons (.cst _ _) vs => constPairs ks vs
  | _, _ => false

/-! what the text's shape must be, by itself -/
mutual
noncomputable def ME.ok (N : Nm) (sc : Scope) : ME → Bool
  | .loc i _ => decide (i < N.slots.length) && (sc.names.lookup (N.slots.getD i default) == some .local) && !(N.slots.getD i default == ("__debug__" : Str))
  | .glob g _ => decide (g < N.globs.length) && (sc.names.lookup (N.globs.getD g default) == some .globalImplicit) && !(N.globs.getD g default == ("__debug__" : Str))
  | .cst c _ => c.short
  | .bin _ l r _ => l.ok N sc && r.ok N sc
  | .cmp _ l r _ => l.ok N sc && r.ok N sc
  | .and2 l r _ => l.ok N sc && r.ok N sc
  | .or2 l r _ => l.ok N sc && r.ok N sc
  | .and3 l c r _ => l.ok N sc && c.ok N sc && r.ok N sc
  | .not e _ => e.ok N sc
  | .neg e _ => e.ok N sc
  | .ite t b o _ => t.ok N sc && b.ok N sc && o.ok N sc
  | .idx e i _ => e.ok N sc && i.ok N sc
  | .slice e lo hi _ _ => e.ok N sc && lo.ok N sc && hi.ok N sc
  | .call f as _ => f.ok N sc && as.ok N sc && f.isName
  | .bcall n _ as _ => (sc.names.lookup (Str.ofString n.name) == some .globalImplicit) && as.ok N sc
  | .meth n self ap as p => self.ok N sc && as.ok N sc && (ap.endLine == p.line) && (match n with | .replace => repArgs as | _ => false) && decide (as.len < 30) && self.notCall
  | .list es _ => es.ok N sc && decide (es.len ≤ 64)
  | .dict sp ks vs _ => sp.ok N sc && constPairs ks vs && ks.short && vs.short && decide (ks.len ≤ 15) && decide ((ks.keys).Nodup) && (match sp with | .no => true | .yes _ => decide (1 ≤ ks.len))
noncomputable def MEs.ok (N : Nm) (sc : Scope) : MEs → Bool
  | .nil => true
  | .cons e r => e.ok N sc && r.ok N sc
noncomputable def MO.ok (N : Nm) (sc : Scope) : MO → Bool
  | .no => true
  | .yes e => e.ok N sc
end

mutual
noncomputable def MS.back (N : Nm) : MS → Stmt
  | .asg i tp e p => .Assign [.Name (N.slots.getD i default) tp] (e.back N) p
  | .asg2 i j tpi tpj tp a b vp p => .Assign [.Tuple [.Name (N.slots.getD i default) tpi, .Name (N.slots.getD j default) tpj] 0 tp] (.Tuple [a.back N, b.back N] 0 vp) p
  | .sets o i tp e p => .Assign [.Subscript (o.back N) (i.back N) tp] (e.back N) p
  | .ite t b o p => .If (t.back N) (b.back N) (o.back N) p
  | .while t b p => .While (t.back N) (b.back N) [] p
  | .for1 x xp it b p => .For (.Name (N.slots.getD x default) xp) (it.back N) (b.back N) [] p
  | .rep s k v d kp vp tp dp ap cp tp2 sp mp k2 v2 rp ap2 p => .For (.Tuple [.Name (N.slots.getD k default) kp, .Name (N.slots.getD v default) vp] 0 tp) (.Call (.Attribute (.Name (N.slots.getD d default) dp) (Str.ofString "items") ap) [] [] cp)
      [.Assign [.Name (N.slots.getD s default) tp2] (.Call (.Attribute (.Name (N.slots.getD s default) sp) (Str.ofString "replace") mp) [.Name (N.slots.getD k default) k2, .Name (N.slots.getD v default) v2] [] rp) ap2] [] p
  | .ret e p => .Return (some (e.back N)) p
  | .expr e p => .Expr (e.back N) p
  | .brk p => .Break p
noncomputable def MSs.back (N : Nm) : MSs → List Stmt
  | .nil => []
  | .cons s r => s.back N :: r.back N
end

noncomputable def okSlot (N : Nm) (sc : Scope) (i : Nat) : Bool := decide (i < N.slots.length) && (sc.names.lookup (N.slots.getD i default) == some .local)
noncomputable def okIt1 (N : Nm) (sc : Scope) : ME → Bool
  | .bcall .range _ (.cons e .nil) _ => (sc.names.lookup (Str.ofString Bi.range.name) == some .globalImplicit) && e.ok N sc
  | e => e.ok N sc
mutual
noncomputable def MS.ok (N : Nm) (sc : Scope) : MS → Bool
  | .asg i _ e _ => okSlot N sc i && e.ok N sc
  | .asg2 i j tpi tpj _ a b _ _ => okSlot N sc i && okSlot N sc j && !(N.slots.getD i default == N.slots.getD j default) && (tpi.line == tpj.line) && a.ok N sc && b.ok N sc &&
    ((foldedForSure 8 (a.back N) && foldedForSure 8 (b.back N)) || !(constantsAlone 8 (a.back N) && constantsAlone 8 (b.back N)))
  | .sets o i _ e _ => o.ok N sc && i.ok N sc && e.ok N sc
  | .ite t b o _ => t.ok N sc && b.ok N sc && o.ok N sc
  | .while t b _ => t.ok N sc && b.ok N sc
  | .for1 x _ it b _ => okSlot N sc x && okIt1 N sc it && b.ok N sc
  | .rep si ki vi di _ _ _ _ ap cp _ _ mp _ _ rp _ _ => okSlot N sc si && okSlot N sc ki && okSlot N sc vi && okSlot N sc di && decide (ki ≠ vi) && decide (si ≠ ki) && decide (si ≠ vi) && (ap.endLine == cp.line) && (mp.endLine == rp.line) &&
    !([si, ki, vi, di].any fun i => N.slots.getD i default == ("__debug__" : Str))
  | .ret e _ => e.ok N sc
  | .expr _ _ => false
  | .brk _ => true
noncomputable def MSs.ok (N : Nm) (sc : Scope) : MSs → Bool
  | .nil => true
  | .cons s r => s.ok N sc && r.ok N sc
end

/-! the small machine -/
inductive V where
  | none
  | bool (b : Bool)
  | int (i : Int)
  | str (l : List Nat)
  | ref (k : Nat)
  | ext (j : Nat)
  | fn (g : Nat)
  deriving DecidableEq
inductive O where
  | list (vs : List V)
  | tup (vs : List V)
  | dict (rep : Bool) (ep : Nat) (es : List (List Nat × V))
  deriving DecidableEq
abbrev M := List (Option V)
abbrev Hp := List O

noncomputable def C0.val : C0 → V
  | .none => .none
  | .bool b => .bool b
  | .int i => .int i
  | .str s => .str (lit s)

noncomputable def obj (X h : Hp) : V → Option O
  | .ref k => h[k]?
  | .ext j => X[j]?
  | _ => .none
noncomputable def O.full : O → Option Bool
  | .list vs => some (!vs.isEmpty)
  | .tup _ => .none
  | .dict _ _ es => some (!es.isEmpty)
noncomputable def truth (X h : Hp) : V → Option Bool
  | .none => some false
  | .bool b => some b
  | .int i => some (decide (i ≠ 0))
  | .str l => some (!l.isEmpty)
  | .ref k => (obj X h (.ref k)).bind O.full
  | .ext j => (obj X h (.ext j)).bind O.full
  | .fn _ => .none

noncomputable def LIM : Nat := 16777216
noncomputable def binop (op : Operator) (a b : V) : Option V :=
  match op, a, b with
  | .Add, .int x, .int y => some (.int (x + y))
  | .Add, .str x, .str y => if x.length + y.length ≤ LIM then some (.str (x ++ y)) else .none
  | .Sub, .int x, .int y => some (.int (x - y))
  | .Mult, .int x, .int y => if x.natAbs ≤ LIM ∧ y.natAbs ≤ LIM then some (.int (x * y)) else .none
  | .FloorDiv, .int x, .int y => if y = 0 then .none else if y.natAbs ≤ LIM then some (.int (x.fdiv y)) else .none
  | .Mod, .int x, .int y => if y = 0 then .none else some (.int (x.fmod y))
  | .Mod, .str f, .str x => if x.length ≤ 1000000 then (if f = lit "\"%s\"" then some (.str (34 :: (x ++ [34]))) else if f = lit "'%s'" then some (.str (39 :: (x ++ [39]))) else .none) else .none
  | _, _, _ => .none

/-- y stands in x -/
noncomputable def inStr (y : List Nat) : List Nat → Bool
  | [] => y.isEmpty
  | c :: r => y.isPrefixOf (c :: r) || inStr y r
noncomputable def keyIn (k : List Nat) (es : List (List Nat × V)) : Option V := (es.find? fun e => e.1 == k).map (·.2)

noncomputable def cmpop (X h : Hp) (op : CmpOp) (a b : V) : Option Bool :=
  match op, a, b with
  | .Eq, .int x, .int y => some (decide (x = y))
  | .Eq, .str x, .str y => some (decide (x = y))
  | .NotEq, .int x, .int y => some (!decide (x = y))
  | .NotEq, .str x, .str y => some (!decide (x = y))
  | .Lt, .int x, .int y => some (decide (x < y))
  | .LtE, .int x, .int y => some (decide (x ≤ y))
  | .Gt, .int x, .int y => some (decide (y < x))
  | .GtE, .int x, .int y => some (decide (y ≤ x))
  | .In, .str x, .str y => some (inStr x y)
  | .NotIn, .str x, .str y => some (!inStr x y)
  | .In, .str x, v => (match obj X h v with
    | some (.dict _ _ es) => some (keyIn x es).isSome
    | _ => .none)
  | .NotIn, .str x, v => (match obj X h v with
    | some (.dict _ _ es) => some (!(keyIn x es).isSome)
    | _ => .none)
  | .Is, v, .none => (match v with
    | .none => some true
    | .str _ => some false
    | _ => .none)
  | .IsNot, v, .none => (match v with
    | .none => some false
    | .str _ => some true
    | _ => .none)
  | _, _, _ => .none

noncomputable def nidx (i : Int) (n : Nat) : Option Nat :=
  if 0 ≤ i then (if i.toNat < n then some i.toNat else .none) else if 0 ≤ i + n then some (i + n).toNat else .none
noncomputable def idxv (X h : Hp) (a i : V) : Option V :=
  match a, i with
  | .str l, .int i => ((nidx i l.length).bind fun j => l[j]?).map fun c => .str [c]
  | v, .int i => (match obj X h v with
    | some (.list vs) => (nidx i vs.length).bind fun j => vs[j]?
    | some (.tup vs) => (nidx i vs.length).bind fun j => vs[j]?
    | _ => .none)
  | v, .str k => (match obj X h v with
    | some (.dict _ _ es) => keyIn k es
    | _ => .none)
  | _, _ => .none
noncomputable def clamp (i : Int) (n : Nat) : Nat := if i < 0 then (i + n).toNat else min i.toNat n
noncomputable def slc (l : List Nat) (lo hi : Option Int) : List Nat :=
  (l.take ((hi.map fun i => clamp i l.length).getD l.length)).drop ((lo.map fun i => clamp i l.length).getD 0)

/-- every place where y stands, from the left, is put as z; y is not empty -/
noncomputable def repl (y z : List Nat) : Nat → List Nat → List Nat
  | 0, l => l
  | _ + 1, [] => []
  | n + 1, c :: r => if y.isPrefixOf (c :: r) then z ++ repl y z n ((c :: r).drop y.length) else c :: repl y z n r
noncomputable def replace (y z l : List Nat) : List Nat := repl y z l.length l

noncomputable def putE (k : List Nat) (v : V) : List (List Nat × V) → List (List Nat × V)
  | [] => [(k, v)]
  | e :: r => if e.1 = k then (e.1, v) :: r else e :: putE k v r
noncomputable def putAll (es : List (List Nat × V)) (more : List (List Nat × V)) : List (List Nat × V) := more.foldl (fun es e => putE e.1 e.2 es) es
noncomputable def epAll (es : List (List Nat × V)) (more : List (List Nat × V)) : Nat := (putAll es more).length - es.length

inductive Fl where
  | next | brk | cont
  | ret (v : V)

structure Sm where
  ev : ME → M → Hp → Option (V × Hp)
  ex : MSs → M → Hp → Option (Fl × M × Hp)
  cl : Nat → List V → Hp → Option (V × Hp)
  fu : Nat

structure Fn where
  np : Nat
  nslots : Nat
  body : MSs
  dflt : Option Nat

noncomputable def evs (S : Sm) : MEs → M → Hp → Option (List V × Hp)
  | .nil, _, h => some ([], h)
  | .cons e r, m, h => (S.ev e m h).bind fun (v, h) => (evs S r m h).bind fun (vs, h) => some (v :: vs, h)
noncomputable def evO (S : Sm) : MO → M → Hp → Option (Option Int × Hp)
  | .no, _, h => some (.none, h)
  | .yes e, m, h => (S.ev e m h).bind fun (v, h) => match v with
    | .int i => some (some i, h)
    | _ => .none
/-- a written display's pairs: constants alone -/
noncomputable def pairs : MEs → MEs → Option (List (List Nat × V))
  | .nil, .nil => some []
  | .cons (.cst (.str k) _) ks, .cons (.cst c _) vs => (pairs ks vs).map fun r => (lit k, c.val) :: r
  | _, _ => .none

noncomputable def bcall (X : Hp) (n : Bi) (vs : List V) (h : Hp) : Option (V × Hp) :=
  match n, vs with
  | .len, [.str l] => some (.int l.length, h)
  | .len, [v] => (obj X h v).bind fun o => match o with
    | .list xs => some (.int xs.length, h)
    | .tup _ => .none
    | .dict _ _ _ => .none
  | .abs, [.int i] => some (.int i.natAbs, h)
  | .min, [.int a, .int b] => some (.int (min a b), h)
  | _, _ => .none

noncomputable def meth (X : Hp) (n : Mt) (a : V) (vs : List V) (h : Hp) : Option (V × Hp) :=
  match n, a, vs with
  | .replace, .str l, [.str y, .str z] => if y ≠ [] ∧ l.length + (l.length + 1) * z.length ≤ LIM then some (.str (replace y z l), h) else .none
  | _, _, _ => .none

noncomputable def stepE (X : Hp) (S : Sm) (e : ME) (m : M) (h : Hp) : Option (V × Hp) :=
  match e with
  | .loc i _ => (m.getD i .none).map fun v => (v, h)
  | .glob g _ => some (.fn g, h)
  | .cst c _ => some (c.val, h)
  | .bin op l r _ => (S.ev l m h).bind fun (a, h) => (S.ev r m h).bind fun (b, h) => (binop op a b).map fun v => (v, h)
  | .cmp op l r _ => (S.ev l m h).bind fun (a, h) => (S.ev r m h).bind fun (b, h) => (cmpop X h op a b).map fun c => (.bool c, h)
  | .and2 l r _ => (S.ev l m h).bind fun (a, h) => (truth X h a).bind fun t => if t then S.ev r m h else some (a, h)
  | .or2 l r _ => (S.ev l m h).bind fun (a, h) => (truth X h a).bind fun t => if t then some (a, h) else S.ev r m h
  | .and3 l c r _ => (S.ev l m h).bind fun (a, h) => (truth X h a).bind fun t => if t then ((S.ev c m h).bind fun (a, h) => (truth X h a).bind fun t => if t then S.ev r m h else some (a, h)) else some (a, h)
  | .not e _ => (S.ev e m h).bind fun (a, h) => (truth X h a).map fun t => (.bool (!t), h)
  | .neg e _ => (S.ev e m h).bind fun (a, h) => match a with
    | .int i => some (.int (-i), h)
    | _ => .none
  | .ite t b o _ => (S.ev t m h).bind fun (a, h) => (truth X h a).bind fun t => if t then S.ev b m h else S.ev o m h
  | .idx e i _ => (S.ev e m h).bind fun (a, h) => (S.ev i m h).bind fun (b, h) => (idxv X h a b).map fun v => (v, h)
  | .slice e lo hi _ _ => (S.ev e m h).bind fun (a, h) => (evO S lo m h).bind fun (l, h) => (evO S hi m h).bind fun (u, h) => match a with
    | .str x => some (.str (slc x l u), h)
    | _ => .none
  | .call f as _ => (S.ev f m h).bind fun (f, h) => (evs S as m h).bind fun (vs, h) => match f with
    | .fn g => S.cl g vs h
    | _ => .none
  | .bcall n _ as _ => (evs S as m h).bind fun (vs, h) => bcall X n vs h
  | .meth n self _ as _ => (S.ev self m h).bind fun (a, h) => (evs S as m h).bind fun (vs, h) => meth X n a vs h
  | .list es _ => (evs S es m h).bind fun (vs, h) => some (.ref h.length, h ++ [.list vs])
  | .dict .no ks vs _ => (pairs ks vs).bind fun es => some (.ref h.length, h ++ [.dict true es.length es])
  | .dict (.yes e) ks vs _ => (S.ev e m h).bind fun (a, h) => match obj X h a with
    | some (.dict rep _ es) => (pairs ks vs).bind fun more => if es.length ≤ 1000 ∧ (more.all fun p => (keyIn p.1 es).isNone) = true then some (.ref h.length, h ++ [.dict rep (es.length + more.length) (es ++ more)]) else .none
    | _ => .none

/-- for k, v in d.items(): s = s.replace(k, v) -/
noncomputable def reps (si ki vi : Nat) : List (List Nat × V) → M → Option M
  | [], m => some m
  | (k, .str v) :: r, m => (match m.getD si .none with
    | some (.str l) => if k ≠ [] ∧ l.length + (l.length + 1) * v.length ≤ LIM then reps si ki vi r (((m.set ki (some (.str k))).set vi (some (.str v))).set si (some (.str (replace k v l)))) else .none
    | _ => .none)
  | _, _ => .none

/-- a for loop over items that are read off ahead; at each turn's start chk holds: what is walked is as it was -/
noncomputable def mfor (S : Sm) (chk : Hp → Bool) (x : Nat) (b : MSs) : List V → M → Hp → Option (Fl × M × Hp)
  | [], m, h => if chk h then some (.next, m, h) else .none
  | v :: vs, m, h => if chk h then ((S.ex b (m.set x (some v)) h).bind fun (f, m, h) => match f with
      | .next => mfor S chk x b vs m h
      | .cont => mfor S chk x b vs m h
      | .brk => some (.next, m, h)
      | .ret v => some (.ret v, m, h)) else .none

/-- a while loop, k turns at most -/
noncomputable def mwhile (X : Hp) (S : Sm) (t : ME) (b : MSs) : Nat → M → Hp → Option (Fl × M × Hp)
  | 0, _, _ => .none
  | k + 1, m, h => (S.ev t m h).bind fun (a, h) => (truth X h a).bind fun c => if c then ((S.ex b m h).bind fun (f, m, h) => match f with
      | .next => mwhile X S t b k m h
      | .cont => mwhile X S t b k m h
      | .brk => some (.next, m, h)
      | .ret v => some (.ret v, m, h)) else some (.next, m, h)
noncomputable def iter1 (X : Hp) (S : Sm) (it : ME) (m : M) (h : Hp) : Option (List V × (Hp → Bool) × Hp) :=
  match it with
  | .bcall .range _ (.cons e .nil) _ => (S.ev e m h).bind fun (a, h) => match a with
    | .int n => if n.natAbs ≤ LIM then some ((List.range n.toNat).map fun (i : Nat) => .int (i : Int), fun _ => true, h) else .none
    | _ => .none
  | e => (S.ev e m h).bind fun (a, h) => match a with
    | .str l => some (l.map fun c => .str [c], fun _ => true, h)
    | .ext j => (match X[j]? with
      | some (.list vs) => some (vs, fun _ => true, h)
      | _ => .none)
    | .ref k => (match h[k]? with
      | some (.list vs) => some (vs, fun h' => decide (h'[k]? = some (.list vs)), h)
      | some (.dict r ep es) => some (es.map fun e => .str e.1, fun h' => decide (h'[k]? = some (.dict r ep es)), h)
      | _ => .none)
    | _ => .none
/-- d['k'] = 'x': both texts have tokens of their own -/
noncomputable def constSet : ME → ME → ME → Bool
  | .loc _ _, .cst (.str _) _, .cst (.str _) _ => true
  | _, _, _ => false
noncomputable def stepS (X : Hp) (S : Sm) (s : MS) (m : M) (h : Hp) : Option (Fl × M × Hp) :=
  match s with
  | .asg i _ e _ => (S.ev e m h).bind fun (v, h) => some (.next, m.set i (some v), h)
  | .asg2 i j _ _ _ a b _ _ => (S.ev a m h).bind fun (u, h) => (S.ev b m h).bind fun (v, h) => some (.next, (m.set i (some u)).set j (some v), h)
  | .sets o i _ e _ => (S.ev e m h).bind fun (v, h) => (S.ev o m h).bind fun (a, h) => (S.ev i m h).bind fun (k, h) => match a, k with
    | .ref r, .str k => (match h[r]? with
      | some (.dict rep ep es) => if LIM ≤ es.length then .none else some (.next, m, h.set r (.dict (rep && constSet o i e) (ep + epAll es [(k, v)]) (putE k v es)))
      | _ => .none)
    | _, _ => .none
  | .ite t b o _ => (S.ev t m h).bind fun (a, h) => (truth X h a).bind fun t => if t then S.ex b m h else S.ex o m h
  | .while t b _ => mwhile X S t b S.fu m h
  | .for1 x _ it b _ => (iter1 X S it m h).bind fun (vs, chk, h) => mfor S chk x b vs m h
  | .rep si ki vi di .. => (m.getD di .none).bind fun dv => (match obj X h dv with
    | some (.dict true _ es) => (reps si ki vi es m).map fun m => (.next, m, h)
    | _ => .none)
  | .ret e _ => (S.ev e m h).bind fun (v, h) => some (.ret v, m, h)
  | .expr e _ => (S.ev e m h).bind fun (_, h) => some (.next, m, h)
  | .brk _ => some (.brk, m, h)
noncomputable def stepX (X : Hp) (S : Sm) : MSs → M → Hp → Option (Fl × M × Hp)
  | .nil, m, h => some (.next, m, h)
  | .cons s r, m, h => (stepS X S s m h).bind fun (f, m, h) => match f with
    | .next => S.ex r m h
    | f => some (f, m, h)
noncomputable def stepC (F : List Fn) (S : Sm) (g : Nat) (vs : List V) (h : Hp) : Option (V × Hp) :=
  (F[g]?).bind fun f =>
    (if vs.length = f.np then some vs else match f.dflt with
      | some j => if vs.length + 1 = f.np then some (vs ++ [.ext j]) else .none
      | .none => .none).bind fun vs =>
    (S.ex f.body (vs.map some ++ List.replicate (f.nslots - f.np) .none) h).map fun (f, _, h) => match f with
      | .ret v => (v, h)
      | _ => (.none, h)

/-- n: the steps' depth; d: the calls' depth -/
noncomputable def Mi (F : List Fn) (X : Hp) : Nat → Nat → Sm
  | 0, _ => ⟨fun _ _ _ => .none, fun _ _ _ => .none, fun _ _ _ => .none, 0⟩
  | n + 1, d => ⟨stepE X (Mi F X n d), stepX X (Mi F X n d), (match d with | 0 => fun _ _ _ => .none | d + 1 => stepC F (Mi F X n d)), n⟩

end Mine

end

section
open PySem PySem.Calls PyProof.Rows PySem.W
namespace Mine

/-! the small machine's values and objects as the model bears them -/
noncomputable def All2 {α β : Type} (R : α → β → Prop) : List α → List β → Prop
  | [], [] => True
  | a :: l, b :: r => R a b ∧ All2 R l r
  | _, _ => False
theorem All2.length {α β : Type} {R : α → β → Prop} : ∀ {l : List α} {r : List β}, All2 R l r → l.length = r.length
  | [], [], _ => rfl
  | _ :: _, _ :: _, h => by rw [List.length_cons, List.length_cons, All2.length h.2]
  | [], _ :: _, h => h.elim
  | _ :: _, [], h => h.elim
theorem All2.mono {α β : Type} {R R' : α → β → Prop} (f : ∀ a b, R a b → R' a b) : ∀ {l : List α} {r : List β}, All2 R l r → All2 R' l r
  | [], [], _ => trivial
  | _ :: _, _ :: _, h => ⟨f _ _ h.1, All2.mono f h.2⟩
  | [], _ :: _, h => h.elim
  | _ :: _, [], h => h.elim
theorem All2.get {α β : Type} {R : α → β → Prop} : ∀ {l : List α} {r : List β} {i : Nat} {a : α}, All2 R l r → l[i]? = some a → ∃ b, r[i]? = some b ∧ R a b
  | _ :: _, b :: _, 0, a, h, e => ⟨b, rfl, by simp at e; exact e ▸ h.1⟩
  | _ :: l, _ :: r, i + 1, a, h, e => by
    obtain ⟨b, hb, hr⟩ := All2.get (i := i) (a := a) h.2 (by simpa using e)
    exact ⟨b, by simpa using hb, hr⟩
  | [], [], _, _, _, e => by simp at e
  | [], _ :: _, _, _, h, _ => h.elim
  | _ :: _, [], _, _, h, _ => h.elim
theorem All2.append {α β : Type} {R : α → β → Prop} : ∀ {l : List α} {r : List β} {l' : List α} {r' : List β}, All2 R l r → All2 R l' r' → All2 R (l ++ l') (r ++ r')
  | [], [], _, _, _, h => h
  | _ :: _, _ :: _, _, _, h, h' => ⟨h.1, All2.append h.2 h'⟩
  | [], _ :: _, _, _, h, _ => h.elim
  | _ :: _, [], _, _, h, _ => h.elim
theorem All2.set {α β : Type} {R : α → β → Prop} : ∀ {l : List α} {r : List β} {i : Nat} {a : α} {b : β}, All2 R l r → R a b → All2 R (l.set i a) (r.set i b)
  | [], [], _, _, _, _, _ => by simp [All2]
  | _ :: _, _ :: _, 0, _, _, h, hr => ⟨hr, h.2⟩
  | _ :: _, _ :: _, i + 1, _, _, h, hr => ⟨h.1, All2.set h.2 hr⟩
  | [], _ :: _, _, _, _, h, _ => h.elim
  | _ :: _, [], _, _, _, h, _ => h.elim

/-- where the model keeps the defs and the objects that stood before -/
structure Pl where
  fa : List Addr
  xa : List Addr

noncomputable def VR (L : Pl) (β : List Addr) (T : Nat) : V → Value → Prop
  | .none, v => v = .none
  | .bool b, v => v = .bool b
  | .int i, v => ∃ t, v = .int i t
  | .str l, v => ∃ t, v = .str ⟨l.toArray⟩ t ∧ 0 < t ∧ t < T ∧ l.length ≤ LIM
  | .ref k, v => ∃ a, β[k]? = some a ∧ v = .ref a
  | .ext j, v => ∃ a, L.xa[j]? = some a ∧ v = .ref a
  | .fn g, v => ∃ a, L.fa[g]? = some a ∧ v = .ref a

noncomputable def ER (w : World) (L : Pl) (β : List Addr) (T : Nat) (rep : Bool) (e : List Nat × V) (d : DictEntry) : Prop :=
  ∃ t, d.key = .str ⟨e.1.toArray⟩ t ∧ d.hash = hashStr w ⟨e.1.toArray⟩ ∧ VR L β T e.2 d.val ∧ 0 < t ∧ t < T ∧ e.1.length ≤ LIM ∧ (rep = true → ∀ x u, d.val = .str x u → u ≠ t)

noncomputable def OR (w : World) (L : Pl) (β : List Addr) (T : Nat) : O → Obj → Prop
  | .list vs, o => ∃ items n d sl, o = ⟨.type "list", d, .seq items n, sl⟩ ∧ All2 (VR L β T) vs items.toList ∧ vs.length ≤ LIM
  | .tup vs, o => ∃ items n d sl, o = ⟨.type "tuple", d, .seq items n, sl⟩ ∧ All2 (VR L β T) vs items.toList ∧ vs.length ≤ LIM
  | .dict rep ep es, o => ∃ ents, o = ⟨.type "dict", none, .dict ents ep, #[]⟩ ∧ All2 (ER w L β T rep) es ents.toList ∧ (es.map (·.1)).Nodup ∧ es.length ≤ LIM

noncomputable def Pre (β β' : List Addr) : Prop := ∃ γ, β' = β ++ γ
theorem Pre.refl (β : List Addr) : Pre β β := ⟨[], by simp⟩
theorem Pre.trans {a b c : List Addr} : Pre a b → Pre b c → Pre a c
  | ⟨x, hx⟩, ⟨y, hy⟩ => ⟨x ++ y, by rw [hy, hx, List.append_assoc]⟩
theorem Pre.get {β β' : List Addr} (h : Pre β β') {k : Nat} {a : Addr} (e : β[k]? = some a) : β'[k]? = some a := by
  obtain ⟨γ, rfl⟩ := h
  have hk : k < β.length := by
    rcases Nat.lt_or_ge k β.length with h | h
    · exact h
    · rw [List.getElem?_eq_none h] at e; cases e
  rw [List.getElem?_append_left hk, e]
theorem Pre.mem {β β' : List Addr} (h : Pre β β') {a : Addr} (e : a ∈ β) : a ∈ β' := by
  obtain ⟨γ, rfl⟩ := h; exact List.mem_append_left _ e

theorem VR.mono {L : Pl} {β β' : List Addr} {T T' : Nat} (hp : Pre β β') (ht : T ≤ T') : ∀ {v : V} {x : Value}, VR L β T v x → VR L β' T' v x
  | .none, _, h => h
  | .bool _, _, h => h
  | .int _, _, h => h
  | .str _, _, ⟨t, e, h0, h1, h2⟩ => ⟨t, e, h0, Nat.lt_of_lt_of_le h1 ht, h2⟩
  | .ref _, _, ⟨a, e, q⟩ => ⟨a, hp.get e, q⟩
  | .ext _, _, h => h
  | .fn _, _, h => h
theorem ER.mono {w : World} {L : Pl} {β β' : List Addr} {T T' : Nat} {rep : Bool} (hp : Pre β β') (ht : T ≤ T') {e : List Nat × V} {d : DictEntry} : ER w L β T rep e d → ER w L β' T' rep e d
  | ⟨t, a, b, c, d0, d1, d2, f⟩ => ⟨t, a, b, c.mono hp ht, d0, Nat.lt_of_lt_of_le d1 ht, d2, f⟩
theorem OR.mono {w : World} {L : Pl} {β β' : List Addr} {T T' : Nat} (hp : Pre β β') (ht : T ≤ T') : ∀ {o : O} {x : Obj}, OR w L β T o x → OR w L β' T' o x
  | .list _, _, ⟨i, n, d, s, e, h, q⟩ => ⟨i, n, d, s, e, h.mono fun _ _ => VR.mono hp ht, q⟩
  | .tup _, _, ⟨i, n, d, s, e, h, q⟩ => ⟨i, n, d, s, e, h.mono fun _ _ => VR.mono hp ht, q⟩
  | .dict _ _ _, _, ⟨i, e, h, n⟩ => ⟨i, e, h.mono fun _ _ => ER.mono hp ht, n⟩

structure Gd (w : World) (L : Pl) (G : Heap) (β : List Addr) (T : Nat) (h : Hp) (H : Heap) : Prop where
  len : β.length = h.length
  nd : β.Nodup
  objs : ∀ (k : Nat) (o : O) (a : Addr), h[k]? = some o → β[k]? = some a → ∃ ob, H.get? a = some ob ∧ OR w L β T o ob
  base : ∀ b o, G.get? b = some o → H.get? b = some o
  new : ∀ a ∈ β, G.get? a = none
  pos : 0 < T
  g3 : ∃ o, G.get? 3 = some o
  big : ∀ a ∈ β, (a == sysModules) = false

/-- how a step leaves the rest of the heap -/
structure Ext (β : List Addr) (H : Heap) (β' : List Addr) (H' : Heap) : Prop where
  pre : Pre β β'
  keep : ∀ b o, b ∉ β → H.get? b = some o → H'.get? b = some o ∧ b ∉ β'
theorem Ext.refl (β : List Addr) (H : Heap) : Ext β H β H := ⟨Pre.refl β, fun _ _ n e => ⟨e, n⟩⟩
theorem Ext.trans {a b c : List Addr} {H₁ H₂ H₃ : Heap} (x : Ext a H₁ b H₂) (y : Ext b H₂ c H₃) : Ext a H₁ c H₃ :=
  ⟨x.pre.trans y.pre, fun q o n e => let ⟨e1, n1⟩ := x.keep q o n e; y.keep q o n1 e1⟩

theorem Gd.toks {w : World} {L : Pl} {G : Heap} {β : List Addr} {T T' : Nat} {h : Hp} {H : Heap} (g : Gd w L G β T h H) (ht : T ≤ T') : Gd w L G β T' h H :=
  ⟨g.len, g.nd, fun k o a e1 e2 => let ⟨ob, q, r⟩ := g.objs k o a e1 e2; ⟨ob, q, r.mono (Pre.refl β) ht⟩, g.base, g.new, Nat.lt_of_lt_of_le g.pos ht, g.g3, g.big⟩
/-- a heap that keeps all that stood -/
theorem Gd.grow {w : World} {L : Pl} {G : Heap} {β : List Addr} {T : Nat} {h : Hp} {H H' : Heap} (g : Gd w L G β T h H) (hk : ∀ b o, H.get? b = some o → H'.get? b = some o) : Gd w L G β T h H' :=
  ⟨g.len, g.nd, fun k o a e1 e2 => let ⟨ob, q, r⟩ := g.objs k o a e1 e2; ⟨ob, hk _ _ q, r⟩, fun b o e => hk _ _ (g.base b o e), g.new, g.pos, g.g3, g.big⟩
theorem Ext.grow {β : List Addr} {H H' : Heap} (hk : ∀ b o, H.get? b = some o → H'.get? b = some o) : Ext β H β H' := ⟨Pre.refl β, fun b o n e => ⟨hk b o e, n⟩⟩
theorem get?_push_keep {H : Heap} (o : Obj) : ∀ b x, H.get? b = some x → (H.push o).get? b = some x := fun _ _ e => Heap.get?_push_of_some o e
/-- a heap that differs at one address outside -/
theorem Gd.but {w : World} {L : Pl} {G : Heap} {β : List Addr} {T : Nat} {h : Hp} {H H' : Heap} {c : Addr} (g : Gd w L G β T h H) (hc : c ∉ β) (hG : G.get? c = none) (hk : ∀ b o, b ≠ c → H.get? b = some o → H'.get? b = some o) : Gd w L G β T h H' :=
  ⟨g.len, g.nd, fun k o a e1 e2 => let ⟨ob, q, r⟩ := g.objs k o a e1 e2; ⟨ob, hk _ _ (fun z => hc (z ▸ List.mem_of_getElem? e2)) q, r⟩,
    fun b o e => hk _ _ (fun z => by rw [z, hG] at e; cases e) (g.base b o e), g.new, g.pos, g.g3, g.big⟩

theorem Gd.fresh {w : World} {L : Pl} {G : Heap} {β : List Addr} {T : Nat} {h : Hp} {H : Heap} (g : Gd w L G β T h H) : H.objs.size ∉ β ∧ G.get? H.objs.size = none := by
  constructor
  · intro hm
    obtain ⟨k, hk⟩ := List.getElem?_of_mem hm
    have hlt : k < h.length := by
      rw [← g.len]
      rcases Nat.lt_or_ge k β.length with q | q
      · exact q
      · rw [List.getElem?_eq_none q] at hk; cases hk
    obtain ⟨ob, q, _⟩ := g.objs k h[k] _ (List.getElem?_eq_getElem hlt) hk
    exact absurd (Heap.lt_size q) (Nat.lt_irrefl _)
  · cases e : G.get? H.objs.size with
    | none => rfl
    | some o => exact absurd (Heap.lt_size (g.base _ _ e)) (Nat.lt_irrefl _)

/-- a new object that the small machine sees -/
theorem Gd.alloc {w : World} {L : Pl} {G : Heap} {β : List Addr} {T : Nat} {h : Hp} {H : Heap} (g : Gd w L G β T h H) {o : O} {ob : Obj} (hf : ob.isFreed = false) (ho : OR w L (β ++ [H.objs.size]) T o ob) :
    Gd w L G (β ++ [H.objs.size]) T (h ++ [o]) (H.push ob) ∧ Ext β H (β ++ [H.objs.size]) (H.push ob) := by
  have hp : Pre β (β ++ [H.objs.size]) := ⟨_, rfl⟩
  refine ⟨⟨by simp [g.len], ?_, ?_, fun b o' e => Heap.get?_push_of_some _ (g.base b o' e), ?_, g.pos, g.g3, ?_⟩, hp, ?_⟩
  · rw [List.nodup_append]
    refine ⟨g.nd, by simp, ?_⟩
    intro a ha b hb
    simp at hb
    subst hb
    intro e
    exact g.fresh.1 (e ▸ ha)
  · intro k o' a e1 e2
    rcases Nat.lt_or_ge k h.length with q | q
    · rw [List.getElem?_append_left q] at e1
      rw [List.getElem?_append_left (by rw [g.len]; exact q)] at e2
      obtain ⟨ob', x, y⟩ := g.objs k o' a e1 e2
      exact ⟨ob', Heap.get?_push_of_some _ x, y.mono hp (Nat.le_refl _)⟩
    · rw [List.getElem?_append_right q] at e1
      rw [List.getElem?_append_right (by rw [g.len]; exact q), g.len] at e2
      have hk : k - h.length = 0 := by
        rcases Nat.eq_zero_or_pos (k - h.length) with z | z
        · exact z
        · rw [List.getElem?_eq_none (by simp; omega)] at e1; cases e1
      rw [hk] at e1 e2
      simp at e1 e2
      subst e1 e2
      exact ⟨ob, Heap.get?_push_size _ hf, ho⟩
  · intro a ha
    rcases List.mem_append.mp ha with q | q
    · exact g.new a q
    · simp at q; subst q; exact g.fresh.2
  · intro a ha
    rcases List.mem_append.mp ha with q | q
    · exact g.big a q
    · simp at q; subst q
      obtain ⟨o3, h3⟩ := g.g3
      have := Heap.lt_size (g.base _ _ h3)
      exact beq_eq_false_iff_ne.mpr (Nat.ne_of_gt (Nat.lt_trans (by decide) this))
  · intro b o' n e
    refine ⟨Heap.get?_push_of_some _ e, fun hm => ?_⟩
    rcases List.mem_append.mp hm with q | q
    · exact n q
    · simp at q; subst q; exact absurd (Heap.lt_size e) (Nat.lt_irrefl _)

/-- an object of the small machine's is changed -/
theorem Gd.update {w : World} {L : Pl} {G : Heap} {β : List Addr} {T : Nat} {h : Hp} {H H' : Heap} {k : Nat} {a : Addr} (g : Gd w L G β T h H) {o' : O} {ob' : Obj} (ha : β[k]? = some a)
    (hk : ∀ b o, b ≠ a → H.get? b = some o → H'.get? b = some o) (hob : H'.get? a = some ob') (ho : OR w L β T o' ob') : Gd w L G β T (h.set k o') H' ∧ Ext β H β H' := by
  refine ⟨⟨by simp [g.len], g.nd, ?_, fun b o e => hk b o (fun z => ?_) (g.base b o e), g.new, g.pos, g.g3, g.big⟩, Pre.refl β, fun b o n e => ⟨hk b o (fun z => n (z ▸ List.mem_of_getElem? ha)) e, n⟩⟩
  · intro j o b e1 e2
    by_cases hj : j = k
    · subst hj
      have : j < h.length := by
        rw [← g.len]
        rcases Nat.lt_or_ge j β.length with q | q
        · exact q
        · rw [List.getElem?_eq_none q] at ha; cases ha
      rw [List.getElem?_set_self this] at e1
      cases e1
      rw [ha] at e2; cases e2
      exact ⟨ob', hob, ho⟩
    · rw [List.getElem?_set_ne (Ne.symm hj)] at e1
      obtain ⟨ob, q, r⟩ := g.objs j o b e1 e2
      refine ⟨ob, hk b ob (fun z => hj ?_) q, r⟩
      have hb : j < β.length := by
        rcases Nat.lt_or_ge j β.length with q | q
        · exact q
        · rw [List.getElem?_eq_none q] at e2; cases e2
      exact (List.getElem?_inj hb g.nd).mp (by rw [e2, ha, z])
  · subst z
    have := g.new _ (List.mem_of_getElem? ha)
    rw [e] at this; cases this

/-- the frame's names -/
noncomputable def LR (L : Pl) (β : List Addr) (T : Nat) : List Str → M → (Str → Option Value) → Prop
  | [], [], _ => True
  | x :: xs, v :: m, f => (match v with
      | none => f x = none
      | some v => ∃ y, f x = some y ∧ VR L β T v y) ∧ LR L β T xs m f
  | _, _, _ => False
theorem LR.mono {L : Pl} {β β' : List Addr} {T T' : Nat} (hp : Pre β β') (ht : T ≤ T') : ∀ {xs : List Str} {m : M} {f : Str → Option Value}, LR L β T xs m f → LR L β' T' xs m f
  | [], [], _, h => h
  | _ :: _, none :: _, _, h => ⟨h.1, h.2.mono hp ht⟩
  | _ :: _, some _ :: _, _, h => ⟨let ⟨y, a, b⟩ := h.1; ⟨y, a, b.mono hp ht⟩, h.2.mono hp ht⟩
  | [], _ :: _, _, h => h.elim
  | _ :: _, [], _, h => h.elim
theorem LR.get {L : Pl} {β : List Addr} {T : Nat} : ∀ {xs : List Str} {m : M} {f : Str → Option Value} {i : Nat} {v : V}, LR L β T xs m f → m.getD i none = some v → ∃ y, f (xs.getD i default) = some y ∧ VR L β T v y
  | x :: xs, u :: m, f, 0, v, h, e => by
    simp at e; subst e; simpa using h.1
  | x :: xs, u :: m, f, i + 1, v, h, e => by
    have := LR.get (i := i) (v := v) h.2 (by simpa using e)
    simpa using this
  | [], [], _, _, _, _, e => by simp at e
  | [], _ :: _, _, _, _, h, _ => h.elim
  | _ :: _, [], _, _, _, h, _ => h.elim
theorem LR.other {L : Pl} {β : List Addr} {T : Nat} {x : Str} {y : Value} : ∀ {xs : List Str} {m : M} {f : Str → Option Value}, LR L β T xs m f → x ∉ xs → LR L β T xs m (fun z => if z = x then some y else f z)
  | [], [], _, _, _ => trivial
  | z :: _, none :: _, _, h, n => ⟨by have : z ≠ x := fun e => n (e ▸ .head _); simp [this, h.1], h.2.other fun q => n (.tail _ q)⟩
  | z :: _, some _ :: _, _, h, n => ⟨by have : z ≠ x := fun e => n (e ▸ .head _); simpa [this] using h.1, h.2.other fun q => n (.tail _ q)⟩
  | [], _ :: _, _, h, _ => h.elim
  | _ :: _, [], _, h, _ => h.elim
theorem LR.set {L : Pl} {β : List Addr} {T : Nat} {v : V} {y : Value} (hv : VR L β T v y) : ∀ {xs : List Str} {m : M} {f : Str → Option Value} {i : Nat}, LR L β T xs m f → xs.Nodup → i < xs.length →
    LR L β T xs (m.set i (some v)) (fun z => if z = xs.getD i default then some y else f z)
  | x :: xs, u :: m, f, 0, h, nd, _ => by
    refine ⟨⟨y, by simp, hv⟩, ?_⟩
    have := h.2.other (x := x) (y := y) (List.nodup_cons.mp nd).1
    simpa using this
  | x :: xs, u :: m, f, i + 1, h, nd, hi => by
    have hi' : i < xs.length := by simpa using hi
    have hne : x ≠ xs.getD i default := by
      intro e
      have : xs.getD i default ∈ xs := by rw [List.getD_eq_getElem?_getD, List.getElem?_eq_getElem hi']; exact List.getElem_mem hi'
      exact (List.nodup_cons.mp nd).1 (e ▸ this)
    rw [List.getD_eq_getElem?_getD] at hne
    refine ⟨?_, by simpa using h.2.set hv (List.nodup_cons.mp nd).2 hi'⟩
    have h1 := h.1
    cases u with
    | none => simpa [hne] using h1
    | some u => simpa [hne] using h1
  | [], [], _, _, _, _, hi => by simp at hi
  | [], _ :: _, _, _, h, _, _ => h.elim
  | _ :: _, [], _, _, h, _, _ => h.elim
theorem LR.len {L : Pl} {β : List Addr} {T : Nat} : ∀ {xs : List Str} {m : M} {f : Str → Option Value}, LR L β T xs m f → xs.length = m.length
  | [], [], _, _ => rfl
  | _ :: _, _ :: _, _, h => by rw [List.length_cons, List.length_cons, h.2.len]
  | [], _ :: _, _, h => h.elim
  | _ :: _, [], _, h => h.elim

/-- the frame at hand: its names, its place -/
structure Frm (L : Pl) (G : Heap) (N : Nm) (β : List Addr) (T : Nat) (m : M) (A : Addr) (H : Heap) : Prop where
  ns : ∃ f, H.Ns A f ∧ LR L β T N.slots m f
  out : A ∉ β
  new : G.get? A = none
theorem Frm.ext {L : Pl} {G : Heap} {N : Nm} {β β' : List Addr} {T T' : Nat} {m : M} {A : Addr} {H H' : Heap} (f : Frm L G N β T m A H) (x : Ext β H β' H') (ht : T ≤ T') : Frm L G N β' T' m A H' := by
  obtain ⟨⟨g, ⟨o, es, ep, ho, r⟩, l⟩, out, new⟩ := f
  obtain ⟨h1, h2⟩ := x.keep A o out ho
  exact ⟨⟨g, ⟨o, es, ep, h1, r⟩, l.mono x.pre ht⟩, h2, new⟩

end Mine

end

section
open PySem PySem.Calls PyProof.Rows PySem.W
namespace Mine
open PySem.StrLaws PySem.Builtin PySem.Builtin.Str

theorem isP_iff {y l : List Nat} : y.isPrefixOf l = true ↔ y <+: l := List.isPrefixOf_iff_prefix
theorem at_iff {l y : List Nat} {i : Nat} : At ⟨l.toArray⟩ ⟨y.toArray⟩ l.length i ↔ i ≤ l.length ∧ y <+: l.drop i := by
  unfold StrLaws.At
  rw [subAt_eq]
  simp only [Str.length, List.size_toArray, beq_iff_eq]
  rw [List.prefix_iff_eq_take]
  constructor
  · intro ⟨h, e⟩
    exact ⟨by omega, e.symm⟩
  · intro ⟨h, e⟩
    refine ⟨?_, e.symm⟩
    have := congrArg List.length e
    simp at this
    omega
theorem repl_none {y z : List Nat} : ∀ {n : Nat} {l : List Nat}, (∀ k, k ≤ l.length → ¬ y <+: l.drop k) → repl y z n l = l
  | 0, l, _ => rfl
  | n + 1, [], _ => rfl
  | n + 1, c :: r, h => by
    have h0 : y.isPrefixOf (c :: r) = false := by
      cases e : y.isPrefixOf (c :: r) with
      | false => rfl
      | true => exact absurd (isP_iff.mp e) (h 0 (Nat.zero_le _))
    show (if y.isPrefixOf (c :: r) = true then _ else c :: repl y z n r) = _
    rw [h0]
    simp only [Bool.false_eq_true, if_false]
    rw [repl_none fun k hk => by have := h (k + 1) (by simpa using hk); simpa using this]
theorem repl_skip {y z : List Nat} : ∀ {k n : Nat} {l : List Nat}, (∀ j, j < k → ¬ y <+: l.drop j) → k ≤ l.length → k ≤ n → repl y z n l = l.take k ++ repl y z (n - k) (l.drop k)
  | 0, n, l, _, _, _ => by simp
  | k + 1, 0, l, _, _, h => by omega
  | k + 1, n + 1, [], _, h, _ => by simp at h
  | k + 1, n + 1, c :: r, h, h1, h2 => by
    have h0 : y.isPrefixOf (c :: r) = false := by
      cases e : y.isPrefixOf (c :: r) with
      | false => rfl
      | true => exact absurd (isP_iff.mp e) (h 0 (Nat.succ_pos _))
    show (if y.isPrefixOf (c :: r) = true then _ else c :: repl y z n r) = _
    rw [h0]
    simp only [Bool.false_eq_true, if_false]
    rw [repl_skip (k := k) (fun j hj => by have := h (j + 1) (by omega); simpa using this) (by simpa using h1) (by omega)]
    simp
theorem repl_hit {y z : List Nat} {n : Nat} {l : List Nat} (hy : y ≠ []) (h : y <+: l) (hn : l.length ≤ n) : repl y z n l = z ++ repl y z (n - 1) (l.drop y.length) := by
  cases n with
  | zero =>
    have : l = [] := List.length_eq_zero_iff.mp (by omega)
    subst this
    exact absurd (List.prefix_nil.mp h) hy
  | succ n =>
    cases l with
    | nil => exact absurd (List.prefix_nil.mp h) hy
    | cons c r =>
      show (if y.isPrefixOf (c :: r) = true then _ else c :: repl y z n r) = _
      rw [isP_iff.mpr h]
      rfl
theorem join_cons2 (z p q : Str) (r : List Str) : (Str.join z (p :: q :: r)).cps.toList = p.cps.toList ++ z.cps.toList ++ (Str.join z (q :: r)).cps.toList := by
  show ((p ++ z ++ Str.join z (q :: r)).cps).toList = _
  rw [Str.cps_append, Str.cps_append]
  simp
theorem join_cuts {l y z : List Nat} (hy : y ≠ []) : ∀ (cuts : List Nat) (a f n : Nat), a ≤ l.length → ChainG ⟨l.toArray⟩ ⟨y.toArray⟩ l.length a cuts f → (∀ k, f ≤ k → ¬ At ⟨l.toArray⟩ ⟨y.toArray⟩ l.length k) → l.length - a ≤ n →
    (Str.join ⟨z.toArray⟩ (partsFrom ⟨l.toArray⟩ y.length a cuts)).cps.toList = repl y z n (l.drop a)
  | [], a, f, n, ha, hc, hn, hf => by
    have e : f = a := hc
    subst e
    show (strSub _ _ _).cps.toList = _
    rw [strSub_toList, repl_none]
    · simp only [Str.length, List.size_toArray]
      exact List.take_of_length_le (by simp)
    · intro k hk hp
      rw [List.drop_drop] at hp
      exact hn (f + k) (by omega) (at_iff.mpr ⟨by simp at hk; omega, hp⟩)
  | c :: r, a, f, n, ha, hc, hn, hf => by
    obtain ⟨hac, hA, hfree, hr⟩ := hc
    obtain ⟨hcl, hp⟩ := at_iff.mp hA
    have hyl : y.length ≤ (l.drop c).length := hp.length_le
    rw [List.length_drop] at hyl
    have hyp : 0 < y.length := List.length_pos_iff.mpr hy
    obtain ⟨p, q, e⟩ := partsFrom_ne ⟨l.toArray⟩ y.length (c + y.length) r
    show (Str.join ⟨z.toArray⟩ (strSub ⟨l.toArray⟩ a c :: partsFrom ⟨l.toArray⟩ y.length (c + y.length) r)).cps.toList = _
    rw [e, join_cons2, ← e, strSub_toList]
    have hr' : ChainG ⟨l.toArray⟩ ⟨y.toArray⟩ l.length (c + y.length) r f := hr
    rw [join_cuts hy r (c + y.length) f (n - (c - a) - 1) (by omega) hr' hn (by omega)]
    rw [repl_skip (k := c - a) (n := n) (l := l.drop a) (fun j hj hp' => by
      rw [List.drop_drop] at hp'
      exact hfree (a + j) (by omega) (by omega) (at_iff.mpr ⟨by omega, hp'⟩)) (by simp; omega) (by omega)]
    rw [List.drop_drop, show a + (c - a) = c from by omega]
    rw [repl_hit (l := l.drop c) hy hp (by simp; omega), List.drop_drop]
    simp
theorem replace_is {l y z : List Nat} (hy : y ≠ []) : Txt.replace ⟨l.toArray⟩ ⟨y.toArray⟩ ⟨z.toArray⟩ = ⟨(replace y z l).toArray⟩ := by
  obtain ⟨f, hc, hn⟩ := occ_tight ⟨l.toArray⟩ ⟨y.toArray⟩ (by simp [Str.length]; exact List.length_pos_iff.mpr hy)
  have hlen : (⟨l.toArray⟩ : Str).length = l.length := by simp [Str.length]
  have hylen : (⟨y.toArray⟩ : Str).length = y.length := by simp [Str.length]
  rw [hlen] at hc hn
  have key := join_cuts (z := z) hy _ 0 f l.length (Nat.zero_le _) hc hn (by omega)
  rw [List.drop_zero] at key
  have hy0 : ((⟨y.toArray⟩ : Str).length == 0) = false := by
    rw [hylen]
    simp; exact hy
  unfold Txt.replace
  rw [hy0, Bool.false_and, Bool.or_false, hlen, hylen]
  split
  · rename_i he
    have : occurrences ⟨l.toArray⟩ ⟨y.toArray⟩ 0 l.length (l.length + 1) = [] := List.isEmpty_iff.mp he
    rw [this] at key
    have h2 : (Str.join ⟨z.toArray⟩ (partsFrom ⟨l.toArray⟩ y.length 0 [])).cps.toList = l := by
      show (strSub _ _ _).cps.toList = _
      rw [strSub_toList]; simp [Str.length]
    rw [h2] at key
    unfold replace
    rw [← key]
  · rw [partsBetween_eq, glued_eq_join]
    unfold replace
    rw [← key]
theorem repl_len {y z : List Nat} (hy : y ≠ []) : ∀ {n : Nat} {l : List Nat}, (repl y z n l).length ≤ l.length + l.length * z.length
  | 0, l => by show l.length ≤ _; omega
  | n + 1, [] => by simp [repl]
  | n + 1, c :: r => by
    show (if y.isPrefixOf (c :: r) = true then _ else c :: repl y z n r).length ≤ _
    have hyp : 0 < y.length := List.length_pos_iff.mpr hy
    split
    · have := repl_len (y := y) (z := z) hy (n := n) (l := (c :: r).drop y.length)
      rw [List.length_append]
      rw [List.length_drop] at this
      have h2 : ((c :: r).length - y.length) * z.length ≤ (c :: r).length * z.length - z.length := by
        rw [List.length_cons]
        have : (r.length + 1 - y.length) * z.length ≤ r.length * z.length := Nat.mul_le_mul_right _ (by omega)
        rw [Nat.succ_mul]; omega
      have h3 : z.length ≤ (c :: r).length * z.length := by rw [List.length_cons, Nat.succ_mul]; omega
      rw [List.length_cons] at *
      omega
    · have := repl_len (y := y) (z := z) hy (n := n) (l := r)
      rw [List.length_cons, List.length_cons, Nat.succ_mul]
      omega
theorem replace_len {y z l : List Nat} (hy : y ≠ []) : (replace y z l).length ≤ l.length + l.length * z.length := repl_len hy

theorem inStr_iff {y : List Nat} : ∀ {l : List Nat}, inStr y l = true ↔ ∃ i, i ≤ l.length ∧ y <+: l.drop i
  | [] => by
    simp only [inStr, List.isEmpty_iff]
    constructor
    · intro h; subst h; exact ⟨0, Nat.le_refl _, List.nil_prefix⟩
    · intro ⟨i, _, h⟩; simpa using h
  | c :: r => by
    simp only [inStr, Bool.or_eq_true, isP_iff, inStr_iff (l := r)]
    constructor
    · rintro (h | ⟨i, hi, h⟩)
      · exact ⟨0, Nat.zero_le _, h⟩
      · exact ⟨i + 1, by simpa using hi, by simpa using h⟩
    · rintro ⟨i, hi, h⟩
      cases i with
      | zero => exact .inl h
      | succ i => exact .inr ⟨i, by simpa using hi, by simpa using h⟩
theorem contains_is {l y : List Nat} : Txt.contains ⟨l.toArray⟩ ⟨y.toArray⟩ = inStr y l := by
  rw [Bool.eq_iff_iff, inStr_iff]
  refine (found_iff _ _).trans ?_
  have : ∀ i, (i + (⟨y.toArray⟩ : Str).length ≤ (⟨l.toArray⟩ : Str).length ∧ subAt ⟨l.toArray⟩ ⟨y.toArray⟩ i = true) ↔ (i ≤ l.length ∧ y <+: l.drop i) := fun i => by
    rw [← at_iff]
    unfold StrLaws.At
    simp [Str.length]
  simp only [this]

theorem clip_is (i : Int) (n : Nat) : max (0 : Int) (min (if i < 0 then i + n else i) n) = (clamp i n : Int) := by
  unfold clamp
  split <;> omega
theorem idx_some (i j : Option Int) (n : Nat) : strSliceIndices i j 1 n = strSliceIndices (some ((((i.map fun i => clamp i n).getD 0 : Nat)) : Int)) (some ((((j.map fun i => clamp i n).getD n : Nat)) : Int)) 1 n := by
  have h1 : (1 : Int) > 0 := by decide
  unfold strSliceIndices
  simp only [h1, if_true]
  congr 1
  · cases i with
    | none => simp; omega
    | some i =>
      simp only [Option.map_some, Option.getD_some]
      rw [clip_is, clip_is]
      unfold clamp
      split <;> (try split) <;> omega
  · cases j with
    | none => simp; omega
    | some i =>
      simp only [Option.map_some, Option.getD_some]
      rw [clip_is, clip_is]
      unfold clamp
      split <;> (try split) <;> omega
theorem clamp_le (i : Int) (n : Nat) : clamp i n ≤ n := by
  unfold clamp; split <;> omega
theorem slc_picked (l : List Nat) (lo hi : Option Int) : (strSliceIndices lo hi 1 l.length).filterMap (l.toArray[·]?) = slc l lo hi := by
  rw [idx_some]
  unfold slc
  have ha : (lo.map fun i => clamp i l.length).getD 0 ≤ l.length := by cases lo <;> simp [clamp_le]
  have hb : (hi.map fun i => clamp i l.length).getD l.length ≤ l.length := by cases hi <;> simp [clamp_le]
  generalize (lo.map fun i => clamp i l.length).getD 0 = a at *
  generalize (hi.map fun i => clamp i l.length).getD l.length = b at *
  rcases Nat.lt_or_ge b a with hab | hab
  rotate_left
  · rw [strSliceIndices_plain hab hb]
    have : (fun (x : Nat) => l.toArray[x]?) = (fun (x : Nat) => l[x]?) := by funext x; simp
    rw [this, picks l (b - a) a (by omega), List.drop_take]
  · have : strSliceIndices (some (a : Int)) (some (b : Int)) 1 l.length = [] := by
      unfold strSliceIndices sliceRange
      simp only [show (1 : Int) > 0 by decide, if_true]
      rw [if_neg (by omega : ¬ ((a : Int) < 0)), if_neg (by omega : ¬ ((b : Int) < 0))]
      have : ¬ (max (0 : Int) (min (a : Int) l.length) < max (0 : Int) (min (b : Int) l.length)) := by omega
      simp [this]
    rw [this, List.drop_eq_nil_of_le (by simp; omega)]
    rfl
theorem slc_len (l : List Nat) (lo hi : Option Int) : (slc l lo hi).length ≤ l.length := by
  unfold slc
  simp
  omega
theorem slc_all (l : List Nat) (lo hi : Option Int) (h : (strSliceIndices lo hi 1 l.length).length = l.length) : slc l lo hi = l := by
  rw [← slc_picked]
  rw [idx_some] at h ⊢
  have ha : (lo.map fun i => clamp i l.length).getD 0 ≤ l.length := by cases lo <;> simp [clamp_le]
  have hb : (hi.map fun i => clamp i l.length).getD l.length ≤ l.length := by cases hi <;> simp [clamp_le]
  generalize (lo.map fun i => clamp i l.length).getD 0 = a at *
  generalize (hi.map fun i => clamp i l.length).getD l.length = b at *
  have h2 : a = 0 ∧ b = l.length ∨ l = [] := by
    rcases Nat.lt_or_ge b a with hab | hab
    rotate_left
    · rw [strSliceIndices_plain hab hb] at h
      simp at h
      rcases Nat.eq_zero_or_pos l.length with z | z
      · exact .inr (List.length_eq_zero_iff.mp z)
      · exact .inl (by omega)
    · unfold strSliceIndices sliceRange at h
      simp only [show (1 : Int) > 0 by decide, if_true] at h
      rw [if_neg (by omega : ¬ ((a : Int) < 0)), if_neg (by omega : ¬ ((b : Int) < 0))] at h
      simp at h
      exact .inr (List.length_eq_zero_iff.mp (by omega))
  rcases h2 with ⟨rfl, rfl⟩ | rfl
  · have : (fun (x : Nat) => l.toArray[x]?) = (fun (x : Nat) => l[x]?) := by funext x; simp
    rw [strSliceIndices_plain (Nat.zero_le _) (Nat.le_refl _), this, picks l _ 0 (by omega)]
    simp
  · simp

theorem nidx_is {i : Int} {n j : Nat} (h : nidx i n = some j) : seqIndex? i n = some j ∧ j < n ∧ -(n : Int) ≤ i ∧ i < n := by
  unfold nidx at h
  unfold seqIndex?
  split at h
  · split at h
    · cases h
      have hi : ¬ i < 0 := by omega
      simp only [hi, if_false]
      refine ⟨?_, by assumption, by omega, by omega⟩
      rw [if_pos (by simp; omega)]
    · cases h
  · split at h
    · cases h
      have hi : i < 0 := by omega
      simp only [hi, if_true]
      refine ⟨?_, by omega, by omega, by omega⟩
      rw [if_pos (by simp; omega)]
    · cases h
end Mine

end

section
open PySem PySem.Calls PyProof.Rows PySem.W
namespace Mine

/-- the law's own constants: the program, the world, where things stand -/
structure Cx where
  prog : Program
  w : World
  L : Pl
  F : List Fn
  X : Hp
  G : Heap
  globs : List Str
  mg : Str → Option Value
  mb : Str → Option Value

noncomputable def Bi.value : Bi → Value
  | .len => .builtin "len" | .abs => .builtin "abs" | .min => .builtin "min" | .range => .type "range" | .isinstance => .builtin "isinstance"

structure Cx.Ok (C : Cx) : Prop where
  nolimit : C.G.NoLimit
  booked : NoneBooked C.G
  g : C.G.Ns mainGlobals C.mg
  b : C.G.Ns builtinsNs C.mb
  fn : ∀ (i : Nat) (a : Addr), C.L.fa[i]? = some a → C.mg (C.globs.getD i default) = some (.ref a) ∧ ∃ o fd, C.G.get? a = some o ∧ o.data = .func fd
  fns : ∀ i : Nat, i < C.globs.length → ∃ a, C.L.fa[i]? = some a
  bi : ∀ n : Bi, C.mg (Str.ofString n.name) = none ∧ C.mb (Str.ofString n.name) = some n.value
  ext : ∀ (j : Nat) (o : O), C.X[j]? = some o → ∃ a ob, C.L.xa[j]? = some a ∧ C.G.get? a = some ob ∧ OR C.w C.L [] 0 o ob ∧ ((∀ vs, o ≠ O.list vs) → (a == sysModules) = false)

structure EnvOk (C : Cx) (N : Nm) (sc : Scope) (env : Env) (A : Addr) : Prop where
  scp : env.scope = sc
  kind : sc.kind = .function
  loc : env.locals = A
  glo : env.globals = mainGlobals
  blt : env.builtins = builtinsNs
  gl : N.globs = C.globs
  nd : N.slots.Nodup

structure AOk (A : Around) (d : Nat) : Prop where
  hd : A.handled = none
  dep : A.depth + d < recursionLimit
  un : A.units + 3 * d + 100 < cLine

noncomputable def Pst (C : Cx) (s : Shared) (β : List Addr) (h' : Hp) (v : V) (Q : Value → Shared → Prop) : Prop :=
  ∀ x β' H' T', s.toks ≤ T' → Ext β s.heap β' H' → Gd C.w C.L C.G β' T' h' H' → VR C.L β' T' v x → Q x { s with heap := H', toks := T' }

noncomputable def SEv (C : Cx) (S : Sm) (d : Nat) : Prop :=
  ∀ (e : ME) (N : Nm) (sc : Scope) (env : Env) (A₀ : Addr) (A : Around) (m : M) (h h' : Hp) (v : V), e.ok N sc = true → EnvOk C N sc env A₀ → AOk A d → S.ev e m h = some (v, h') →
  ∀ (s : Shared) (β : List Addr) (Q : Value → Shared → Prop) (E : Value → Shared → Prop), Gd C.w C.L C.G β s.toks h s.heap → Frm C.L C.G N β s.toks m A₀ s.heap → Pst C s β h' v Q → wpAny (model C.prog C.w) A (eval (e.back N) env) Q E s

noncomputable def SCl (C : Cx) (S : Sm) (d : Nat) : Prop :=
  ∀ (g : Nat) (vs : List V) (h h' : Hp) (v : V) (A : Around), AOk A d → S.cl g vs h = some (v, h') →
  ∀ (s : Shared) (β : List Addr) (a : Addr) (xs : List Value) (R : Result → Shared → Prop), C.L.fa[g]? = some a → All2 (VR C.L β s.toks) vs xs → Gd C.w C.L C.G β s.toks h s.heap →
  Pst C s β h' v (fun x s' => R (.ok (.ret x)) s') → codeAny (model C.prog C.w) A (.call (.ref a) ⟨xs, []⟩) R s

section
variable {C : Cx} {N : Nm} {sc : Scope} {env : Env} {A₀ : Addr} {A : Around} {d : Nat} {m : M} {h h' : Hp} {v : V} {s : Shared} {β : List Addr} {Q : Value → Shared → Prop} {E : Value → Shared → Prop} {S : Sm}

theorem Pst.same (pst : Pst C s β h v Q) (G : Gd C.w C.L C.G β s.toks h s.heap) {x : Value} {T : Nat} (ht : s.toks ≤ T) (r : VR C.L β T v x) : Q x { s with toks := T } :=
  pst x β s.heap T ht (Ext.refl _ _) (G.toks ht) r
theorem Pst.here (pst : Pst C s β h v Q) (G : Gd C.w C.L C.G β s.toks h s.heap) {x : Value} (r : VR C.L β s.toks v x) : Q x s :=
  pst x β s.heap s.toks (Nat.le_refl _) (Ext.refl _ _) G r
/-- behind a first step -/
theorem Pst.step {β' : List Addr} {H' : Heap} {T' : Nat} (pst : Pst C s β h' v Q) (ht : s.toks ≤ T') (x : Ext β s.heap β' H') : Pst C { s with heap := H', toks := T' } β' h' v Q :=
  fun y β'' H'' T'' ht' x' g r => pst y β'' H'' T'' (Nat.le_trans ht ht') (x.trans x') g r

theorem bind_some {α γ : Type} {o : Option α} {f : α → Option γ} {c : γ} (e : o.bind f = some c) : ∃ a, o = some a ∧ f a = some c := by
  cases o with
  | none => cases e
  | some a => exact ⟨a, rfl, e⟩
theorem map_some {α γ : Type} {o : Option α} {f : α → γ} {c : γ} (e : o.map f = some c) : ∃ a, o = some a ∧ f a = c := by
  cases o with
  | none => cases e
  | some a => exact ⟨a, rfl, Option.some.inj e⟩

theorem obj_at (ok0 : C.Ok) {T : Nat} {H : Heap} (g : Gd C.w C.L C.G β T h H) {v : V} {o : O} (e : obj C.X h v = some o) {x : Value} (r : VR C.L β T v x) :
    ∃ a ob, x = .ref a ∧ H.get? a = some ob ∧ OR C.w C.L β T o ob ∧ ((∀ vs, o ≠ O.list vs) → (a == sysModules) = false) := by
  cases v with
  | ref k =>
    obtain ⟨a, ha, rfl⟩ := r
    obtain ⟨ob, q, z⟩ := g.objs k o a e ha
    exact ⟨a, ob, rfl, q, z, fun _ => g.big a (List.mem_of_getElem? ha)⟩
  | ext j =>
    obtain ⟨a, ha, rfl⟩ := r
    obtain ⟨a', ob, ha', q, z, lo⟩ := ok0.ext j o e
    rw [ha] at ha'; cases ha'
    exact ⟨a, ob, rfl, g.base _ _ q, z.mono ⟨β, rfl⟩ (Nat.zero_le _), lo⟩
  | _ => cases e

theorem OR.isList {w : World} {L : Pl} {T : Nat} {vs : List V} {ob : Obj} {H : Heap} {a : Addr} (q : H.get? a = some ob) (r : OR w L β T (.list vs) ob) : ∃ items, H.IsList a items ∧ All2 (VR L β T) vs items.toList ∧ vs.length ≤ LIM := by
  obtain ⟨items, n, d, sl, rfl, al, le⟩ := r
  exact ⟨items, ⟨_, q, rfl, n, rfl⟩, al, le⟩
theorem keys_dict {w : World} {L : Pl} {T : Nat} {rep : Bool} : ∀ {es : List (List Nat × V)} {ents : List DictEntry}, All2 (ER w L β T rep) es ents → ∀ e ∈ ents, ∃ k, Value.isStrOf k e.key = true ∧ e.hash = hashStr w k
  | [], [], _, _, hm => nomatch hm
  | [], _ :: _, al, _, _ => al.elim
  | _ :: _, [], al, _, _ => al.elim
  | e :: es, d :: ents, al, e', hm => by
    cases hm with
    | head =>
      obtain ⟨t, h1, h2, _⟩ := al.1
      exact ⟨⟨e.1.toArray⟩, by rw [h1]; exact beq_self_eq_true _, h2⟩
    | tail _ hm => exact keys_dict al.2 e' hm
theorem isStrOf_key {k k' : List Nat} {t : Tok} : Value.isStrOf ⟨k.toArray⟩ (.str ⟨k'.toArray⟩ t) = (k' == k) := by
  show (_ == _) = _
  rw [Bool.eq_iff_iff]
  simp only [beq_iff_eq]
  constructor
  · intro e
    have := congrArg (fun x : Str => x.cps.toList) e
    first | exact this | exact this.symm
  · rintro rfl; rfl
theorem find_dict {w : World} {L : Pl} {T : Nat} {rep : Bool} (k : List Nat) : ∀ {es : List (List Nat × V)} {ents : List DictEntry}, All2 (ER w L β T rep) es ents →
    (match keyIn k es with
      | none => ents.find? (fun e => Value.isStrOf ⟨k.toArray⟩ e.key) = none
      | some v => ∃ e, ents.find? (fun e => Value.isStrOf ⟨k.toArray⟩ e.key) = some e ∧ VR L β T v e.val)
  | [], [], _ => rfl
  | e :: es, d :: ents, al => by
    obtain ⟨t, h1, h2, h3, _⟩ := al.1
    have ih := find_dict k al.2
    unfold keyIn at ih ⊢
    rw [List.find?_cons, List.find?_cons, h1, isStrOf_key]
    cases hk : (e.1 == k) with
    | true => exact ⟨d, rfl, h3⟩
    | false => exact ih
  | [], _ :: _, al => al.elim
  | _ :: _, [], al => al.elim
theorem OR.isMap {prog : Program} {w : World} {L : Pl} {T : Nat} {rep : Bool} {ep : Nat} {es : List (List Nat × V)} {ob : Obj} {H : Heap} {a : Addr} (q : H.get? a = some ob) (r : OR w L β T (.dict rep ep es) ob) :
    ∃ f : Str → Option Value, H.MapOf (strKind prog w) a f ∧ ∀ k, match keyIn k es with
      | none => f ⟨k.toArray⟩ = none
      | some v => ∃ x, f ⟨k.toArray⟩ = some x ∧ VR L β T v x := by
  obtain ⟨ents, rfl, al, nd, le⟩ := r
  refine ⟨fun k => findBy Value.isStrOf ents k, ⟨_, ents, ep, q, ⟨rfl, rfl, rfl⟩, rfl, fun e he => keys_dict al e (Array.mem_toList_iff.mpr he), fun k => rfl⟩, fun k => ?_⟩
  have := find_dict k al
  cases hk : keyIn k es with
  | none =>
    rw [hk] at this
    show (ents.find? _).map _ = none
    rw [← Array.find?_toList, this]; rfl
  | some v =>
    rw [hk] at this
    obtain ⟨e, h1, h2⟩ := this
    refine ⟨e.val, ?_, h2⟩
    show (ents.find? _).map _ = some _
    rw [← Array.find?_toList, h1]; rfl
theorem es_len {w : World} {L : Pl} {T : Nat} {rep : Bool} {es : List (List Nat × V)} {ents : List DictEntry} (al : All2 (ER w L β T rep) es ents) : es.length = ents.length := al.length

theorem ev_loc {i : Nat} {p : Pos} (V₀ : EnvOk C N sc env A₀) (ok : ME.ok N sc (.loc i p) = true) (e : stepE C.X S (.loc i p) m h = some (v, h')) (G : Gd C.w C.L C.G β s.toks h s.heap) (F : Frm C.L C.G N β s.toks m A₀ s.heap) (pst : Pst C s β h' v Q) :
    wpAny (model C.prog C.w) A (eval ((ME.loc i p).back N) env) Q E s := by
  replace ok := (show (_ && _) = true from ok)
  simp only [Bool.and_eq_true, Bool.not_eq_true', beq_iff_eq, decide_eq_true_eq] at ok
  obtain ⟨v', e1, e2⟩ := map_some e
  cases e2
  obtain ⟨⟨f, hn, l⟩, _, _⟩ := F
  obtain ⟨y, hy, r⟩ := l.get e1
  refine wpAny_Name (wpAny_loadName_local (by rw [V₀.scp]; exact V₀.kind) (by unfold Env.kindOf; rw [V₀.scp]; exact ok.1.2) (by rw [V₀.loc]; exact hn) hy (pst.here G r)) ok.2

theorem ev_glob {i : Nat} {p : Pos} (ok0 : C.Ok) (V₀ : EnvOk C N sc env A₀) (ok : ME.ok N sc (.glob i p) = true) (e : stepE C.X S (.glob i p) m h = some (v, h')) (G : Gd C.w C.L C.G β s.toks h s.heap) (pst : Pst C s β h' v Q) :
    wpAny (model C.prog C.w) A (eval ((ME.glob i p).back N) env) Q E s := by
  replace ok := (show (_ && _) = true from ok)
  simp only [Bool.and_eq_true, Bool.not_eq_true', beq_iff_eq, decide_eq_true_eq] at ok
  cases e
  obtain ⟨a, ha⟩ := ok0.fns i (by rw [← V₀.gl]; exact ok.1.1)
  have h1 := (ok0.fn i a ha).1
  refine Name_function_global (by rw [V₀.scp]; exact V₀.kind) (by unfold Env.kindOf; rw [V₀.scp]; exact ok.1.2) (loadGlobal_global (mg := C.mg) (by rw [V₀.glo]; exact ok0.g.keeps G.base) (by rw [V₀.gl]; exact h1) (pst.here G ⟨a, ha, rfl⟩)) ok.2

theorem vr_lit {L : Pl} {t T : Nat} (x : String) (h0 : 0 < t) (h1 : t < T) (hl : (lit x).length ≤ LIM) : VR L β T (.str (lit x)) (.str (Str.ofString x) t) := ⟨t, by rfl, h0, h1, hl⟩

theorem ev_cst {c : C0} {p : Pos} (ok : ME.ok N sc (.cst c p) = true) (e : stepE C.X S (.cst c p) m h = some (v, h')) (G : Gd C.w C.L C.G β s.toks h s.heap) (pst : Pst C s β h' v Q) :
    wpAny (model C.prog C.w) A (eval ((ME.cst c p).back N) env) Q E s := by
  cases e
  have hl : ∀ x, c = .str x → (lit x).length ≤ LIM := by
    rintro x rfl
    replace ok := of_decide_eq_true (show decide ((lit x).length ≤ 1000) = true from ok)
    unfold LIM; omega
  cases c with
  | none => exact fun _ _ _ => pst.here G rfl
  | bool b => exact fun _ _ _ => pst.here G rfl
  | int i => exact wpAny_Constant_int (pst.same G (Nat.le_succ _) ⟨_, rfl⟩)
  | str x => exact Constant_str (pst.same G (Nat.le_succ _) (vr_lit x G.pos (Nat.lt_succ_self _) (hl x rfl)))

/-- a text made by a built-in: the old value, or a new one -/
theorem made_str {l : List Nat} (G : Gd C.w C.L C.G β s.toks h s.heap) (pst : Pst C s β h (.str l) Q) {c : Bool} {x y : Str} {t : Tok} (hx : c = true → VR C.L β s.toks (.str l) (.str x t)) (hy : c = false → y = ⟨l.toArray⟩ ∧ l.length ≤ LIM) :
    (if c = true then Made.val (.str x t) else Made.str y).post Q s := by
  cases c with
  | true => exact pst.here G (hx rfl)
  | false =>
    obtain ⟨rfl, h1⟩ := hy rfl
    refine ⟨by rw [sizeLine_eq]; simp [Str.length]; exact h1, pst.same G (Nat.le_succ _) ⟨_, rfl, G.pos, Nat.lt_succ_self _, h1⟩⟩

theorem add_str_sound {x y : List Nat} {a b : Value} (G : Gd C.w C.L C.G β s.toks h s.heap) (ra : VR C.L β s.toks (.str x) a) (rb : VR C.L β s.toks (.str y) b) (hl : x.length + y.length ≤ LIM) (pst : Pst C s β h (.str (x ++ y)) Q) :
    wpAny (model C.prog C.w) A (binaryOp .Add a b) Q E s := by
  obtain ⟨t, rfl, t0, t1, _⟩ := ra
  obtain ⟨u, rfl, u0, u1, _⟩ := rb
  refine P.add_str ?_
  by_cases hx : ((⟨x.toArray⟩ : Str).length == 0) = true
  · rw [if_pos hx]
    have : x = [] := by simpa [Str.length] using hx
    subst this
    exact pst.here G ⟨u, rfl, u0, u1, by simpa using hl⟩
  · rw [if_neg hx]
    by_cases hy : ((⟨y.toArray⟩ : Str).length == 0) = true
    · rw [if_pos hy]
      have : y = [] := by simpa [Str.length] using hy
      subst this
      exact pst.here G ⟨t, by simp, t0, t1, by simpa using hl⟩
    · rw [if_neg hy]
      refine ⟨by rw [sizeLine_eq, Str.length_append]; simp [Str.length]; exact hl, pst.same G (Nat.le_succ _) ⟨_, ?_, G.pos, Nat.lt_succ_self _, by rw [List.length_append]; exact hl⟩⟩
      congr 1
      exact Str.ext' (by rw [Str.cps_append]; simp)
end
end Mine

end

section
open PySem PySem.Calls PyProof.Rows PySem.W
namespace Mine
section
variable {C : Cx} {N : Nm} {sc : Scope} {env : Env} {A₀ : Addr} {A : Around} {d : Nat} {m : M} {h h' : Hp} {v : V} {s : Shared} {β : List Addr} {Q : Value → Shared → Prop} {E : Value → Shared → Prop} {S : Sm}

theorem intBits_small {a : Int} (h : a.natAbs ≤ LIM) : Builtin.Int.intBits a ≤ 64 := by
  unfold Builtin.Int.intBits
  have : a.natAbs.log2 ≤ 24 := by
    have h2 : a.natAbs < 2 ^ 25 := by unfold LIM at h; omega
    by_cases h0 : a.natAbs = 0
    · rw [h0]; decide
    · have := (Nat.log2_lt h0).mpr h2
      omega
  first | omega | (split <;> omega)

theorem binop_sound {op : Operator} {x y v : V} {a b : Value} (hA : A.handled = none) (G : Gd C.w C.L C.G β s.toks h s.heap) (e : binop op x y = some v) (ra : VR C.L β s.toks x a) (rb : VR C.L β s.toks y b)
    (hm : ∀ f z, op = .Mod → x = .str f → y = .str z → ∀ (u t : Tok), wpAny (model C.prog C.w) A (binaryOp .Mod (.str ⟨f.toArray⟩ t) (.str ⟨z.toArray⟩ u)) Q E s)
    (pst : Pst C s β h v Q) : wpAny (model C.prog C.w) A (binaryOp op a b) Q E s := by
  unfold binop at e
  split at e
  · cases e; obtain ⟨t, rfl⟩ := ra; obtain ⟨u, rfl⟩ := rb
    exact PyProof.Rows.add_int (pst.same G (Nat.le_succ _) ⟨_, rfl⟩)
  · split at e
    · cases e; exact add_str_sound G ra rb (by assumption) pst
    · cases e
  · cases e; obtain ⟨t, rfl⟩ := ra; obtain ⟨u, rfl⟩ := rb
    exact PyProof.Rows.sub_int (pst.same G (Nat.le_succ _) ⟨_, rfl⟩)
  · split at e
    · rename_i hl
      cases e; obtain ⟨t, rfl⟩ := ra; obtain ⟨u, rfl⟩ := rb
      exact PyProof.Rows.mul_int (pst.same G (Nat.le_succ _) ⟨_, rfl⟩) (IntMulOk.of_left (intBits_small hl.1))
    · cases e
  · split at e
    · cases e
    · rename_i x y hy
      split at e
      · rename_i hl
        cases e; obtain ⟨t, rfl⟩ := ra; obtain ⟨u, rfl⟩ := rb
        exact floordiv_int_or hA (fun z => absurd z hy) (fun _ => pst.same G (Nat.le_succ _) ⟨_, rfl⟩) (fun _ => .inl (PyProof.noPylong_small (by unfold LIM at hl; omega)))
      · cases e
  · split at e
    · cases e
    · rename_i x y hy
      cases e; obtain ⟨t, rfl⟩ := ra; obtain ⟨u, rfl⟩ := rb
      exact mod_int_or hA (fun z => absurd z hy) (fun _ => pst.same G (Nat.le_succ _) ⟨_, rfl⟩)
  · obtain ⟨t, rfl, _⟩ := ra; obtain ⟨u, rfl, _⟩ := rb
    exact hm _ _ rfl rfl rfl u t
  · cases e

theorem pairs_dict {prog : Program} {w : World} {L : Pl} {T : Nat} {rep : Bool} : ∀ {es : List (List Nat × V)} {ents : List DictEntry}, All2 (ER w L β T rep) es ents →
    ∃ kvs : List (Str × Value), PySem.Pairs (strKind prog w) ents kvs ∧ All2 (fun (e : List Nat × V) (kv : Str × Value) => kv.1 = ⟨e.1.toArray⟩ ∧ VR L β T e.2 kv.2) es kvs
  | [], [], _ => ⟨[], .nil, trivial⟩
  | e :: es, d :: ents, al => by
    obtain ⟨kvs, h1, h2⟩ := pairs_dict (prog := prog) al.2
    obtain ⟨t, k1, k2, k3, _⟩ := al.1
    exact ⟨(⟨e.1.toArray⟩, d.val) :: kvs, .cons (by rw [k1]; exact beq_self_eq_true _) rfl h1, ⟨rfl, k3⟩, h2⟩
  | [], _ :: _, al => al.elim
  | _ :: _, [], al => al.elim
theorem keys_nd {L : Pl} {T : Nat} : ∀ {es : List (List Nat × V)} {kvs : List (Str × Value)}, All2 (fun (e : List Nat × V) (kv : Str × Value) => kv.1 = ⟨e.1.toArray⟩ ∧ VR L β T e.2 kv.2) es kvs → (es.map (·.1)).Nodup → (kvs.map (·.1)).Nodup
  | [], [], _, _ => .nil
  | e :: es, kv :: kvs, al, nd => by
    rw [List.map_cons, List.nodup_cons] at nd ⊢
    refine ⟨fun hm => nd.1 ?_, keys_nd al.2 nd.2⟩
    rw [al.1.1] at hm
    have : ∀ {es : List (List Nat × V)} {kvs : List (Str × Value)}, All2 (fun (e : List Nat × V) (kv : Str × Value) => kv.1 = ⟨e.1.toArray⟩ ∧ VR L β T e.2 kv.2) es kvs → (⟨e.1.toArray⟩ : Str) ∈ kvs.map (·.1) → e.1 ∈ es.map (·.1) := by
      intro es
      induction es with
      | nil => intro kvs al hm; cases kvs with
        | nil => cases hm
        | cons _ _ => exact al.elim
      | cons e' es ih =>
        intro kvs al hm
        cases kvs with
        | nil => exact al.elim
        | cons kv kvs =>
          rw [List.map_cons] at hm ⊢
          rcases List.mem_cons.mp hm with q | q
          · rw [al.1.1] at q
            have e2 := congrArg (fun x : Str => x.cps.toList) q
            have e3 : e.1 = e'.1 := e2
            rw [e3]; exact .head _
          · exact .tail _ (ih al.2 q)
    exact this al.2 hm
  | [], _ :: _, al, _ => al.elim
  | _ :: _, [], al, _ => al.elim
theorem OR.isDictAt {prog : Program} {w : World} {L : Pl} {T : Nat} {rep : Bool} {ep : Nat} {es : List (List Nat × V)} {ob : Obj} {H : Heap} {a : Addr} (q : H.get? a = some ob) (r : OR w L β T (.dict rep ep es) ob) :
    ∃ kvs : List (Str × Value), H.DictAt (strKind prog w) a kvs ep ∧ All2 (fun (e : List Nat × V) (kv : Str × Value) => kv.1 = ⟨e.1.toArray⟩ ∧ VR L β T e.2 kv.2) es kvs := by
  obtain ⟨ents, rfl, al, nd, le⟩ := r
  obtain ⟨kvs, h1, h2⟩ := pairs_dict (prog := prog) al
  exact ⟨kvs, ⟨_, ents, q, ⟨rfl, rfl, rfl⟩, rfl, fun e he => keys_dict al e (Array.mem_toList_iff.mpr he), h1, keys_nd h2 nd⟩, h2⟩
theorem OR.isDict {prog : Program} {w : World} {L : Pl} {T : Nat} {rep : Bool} {ep : Nat} {es : List (List Nat × V)} {ob : Obj} {H : Heap} {a : Addr} (q : H.get? a = some ob) (r : OR w L β T (.dict rep ep es) ob) :
    ∃ kvs : List (Str × Value), H.DictOf (strKind prog w) a kvs ∧ kvs.length = es.length ∧ True := by
  obtain ⟨kvs, ⟨o, es', h1, h2, h3, h4, h5, h6⟩, al⟩ := OR.isDictAt (prog := prog) q r
  exact ⟨kvs, ⟨o, es', ep, h1, h2, h3, h4, h5, h6⟩, al.length.symm, trivial⟩

theorem truth_sound (ok0 : C.Ok) {x : Value} {t : Bool} {Q : Bool → Shared → Prop} (G : Gd C.w C.L C.G β s.toks h s.heap) (r : VR C.L β s.toks v x) (e : truth C.X h v = some t)
    (k : ∀ T, s.toks ≤ T → Q t { s with toks := T }) : wpAny (model C.prog C.w) A (truthy x) Q E s := by
  have onObj : ∀ {v : V}, VR C.L β s.toks v x → (obj C.X h v).bind O.full = some t → wpAny (model C.prog C.w) A (truthy x) Q E s := by
    intro v r e
    obtain ⟨o, e1, e2⟩ := bind_some e
    obtain ⟨a, ob, rfl, q, z, lo⟩ := obj_at ok0 G e1 r
    cases o with
    | list vs =>
      obtain ⟨items, hl, al, le⟩ := OR.isList q z
      have e3 : items.size = vs.length := by rw [← Array.length_toList, al.length]
      refine wpAny_truthy_list hl (by rw [e3]; unfold LIM at le; omega) ?_
      have e4 : (!items.isEmpty) = t := by
        cases e2
        rw [Bool.eq_iff_iff]
        simp only [Array.isEmpty, Bool.not_eq_true', decide_eq_false_iff_not, e3]
        cases vs <;> simp
      rw [e4]; exact k _ (by omega)
    | tup vs => cases e2
    | dict rep ep es =>
      obtain ⟨kvs, hd, hl, _⟩ := OR.isDict (prog := C.prog) q z
      have le : es.length ≤ LIM := let ⟨_, _, _, _, le⟩ := z; le
      refine wpAny_truthy_dict (lo fun vs e => by cases e) hd (by rw [hl]; unfold LIM at le; omega) ?_
      have e4 : (!kvs.isEmpty) = t := by
        cases e2
        rw [Bool.eq_iff_iff]
        cases kvs <;> cases es <;> simp_all
      rw [e4]; exact k _ (by omega)
  cases v with
  | none => cases e; subst r; exact truthy_none (k s.toks (Nat.le_refl _))
  | bool b => cases e; subst r; exact wpAny_truthy_bool (k s.toks (Nat.le_refl _))
  | int i =>
    obtain ⟨u, rfl⟩ := r
    refine PyProof.Rows.truthy_int ?_
    have : (i != 0) = t := by cases e; rw [Bool.eq_iff_iff]; simp
    rw [this]; exact k s.toks (Nat.le_refl _)
  | str l =>
    obtain ⟨u, rfl, _, _, hl⟩ := r
    have hsz : (⟨l.toArray⟩ : Str).length = l.length := by simp [Str.length]
    refine P.truthy_str (by rw [hsz]; unfold LIM at hl; omega) ?_
    have : (((⟨l.toArray⟩ : Str).length : Int) != 0) = t := by
      cases e
      rw [hsz]
      cases l <;> simp
      omega
    rw [this]; exact k _ (by omega)
  | ref j => exact onObj r e
  | ext j => exact onObj r e
  | fn g => cases e
end
end Mine

end

section
open PySem PySem.Calls PyProof.Rows PySem.W
namespace Mine
section
variable {C : Cx} {N : Nm} {sc : Scope} {env : Env} {A₀ : Addr} {A : Around} {d : Nat} {m : M} {h h' : Hp} {v : V} {s : Shared} {β : List Addr} {Q : Value → Shared → Prop} {E : Value → Shared → Prop} {S : Sm}

theorem str_eq_iff {x y : List Nat} : ((⟨x.toArray⟩ : Str) == ⟨y.toArray⟩) = decide (x = y) := by
  rw [Bool.eq_iff_iff]
  simp only [beq_iff_eq, decide_eq_true_eq]
  constructor
  · intro e
    have := congrArg (fun x : Str => x.cps.toList) e
    exact this
  · rintro rfl; rfl

theorem cmp_in_obj (ok0 : C.Ok) {x : List Nat} {y : V} {a b : Value} {Q : Value → Shared → Prop} (G : Gd C.w C.L C.G β s.toks h s.heap) {rep : Bool} {ep : Nat} {es : List (List Nat × V)} (e : obj C.X h y = some (.dict rep ep es))
    (ra : VR C.L β s.toks (.str x) a) (rb : VR C.L β s.toks y b) (k : Q (.bool (keyIn x es).isSome) { s with toks := s.toks + 1 }) :
    wpAny (model C.prog C.w) A (compareOp .In a b) Q E s := by
  obtain ⟨t, rfl, _⟩ := ra
  obtain ⟨a, ob, rfl, q, z, lo⟩ := obj_at ok0 G e rb
  obtain ⟨f, hm, hf⟩ := OR.isMap (prog := C.prog) q z
  refine wpAny_in_of (knd := strKind C.prog C.w) (k := ⟨x.toArray⟩) (by exact beq_self_eq_true _) (lo fun vs e => by cases e) hm ?_
  have := hf x
  cases hk : keyIn x es with
  | none => rw [hk] at this k; rw [this]; exact k
  | some v => rw [hk] at this k; obtain ⟨y, e, _⟩ := this; rw [e]; exact k
theorem cmp_notin_obj (ok0 : C.Ok) {x : List Nat} {y : V} {a b : Value} {Q : Value → Shared → Prop} (G : Gd C.w C.L C.G β s.toks h s.heap) {rep : Bool} {ep : Nat} {es : List (List Nat × V)} (e : obj C.X h y = some (.dict rep ep es))
    (ra : VR C.L β s.toks (.str x) a) (rb : VR C.L β s.toks y b) (k : Q (.bool (!(keyIn x es).isSome)) { s with toks := s.toks + 1 }) :
    wpAny (model C.prog C.w) A (compareOp .NotIn a b) Q E s := by
  obtain ⟨t, rfl, _⟩ := ra
  obtain ⟨a, ob, rfl, q, z, lo⟩ := obj_at ok0 G e rb
  obtain ⟨f, hm, hf⟩ := OR.isMap (prog := C.prog) q z
  refine wpAny_notIn_of (knd := strKind C.prog C.w) (k := ⟨x.toArray⟩) (by exact beq_self_eq_true _) (lo fun vs e => by cases e) hm ?_
  have := hf x
  cases hk : keyIn x es with
  | none => rw [hk] at this k; rw [this]; exact k
  | some v => rw [hk] at this k; obtain ⟨y, e, _⟩ := this; rw [e]; exact k

theorem cmp_sound (ok0 : C.Ok) {op : CmpOp} {x y : V} {c : Bool} {a b : Value} {Q : Value → Shared → Prop} (G : Gd C.w C.L C.G β s.toks h s.heap) (e : cmpop C.X h op x y = some c) (ra : VR C.L β s.toks x a) (rb : VR C.L β s.toks y b)
    (k : ∀ T, s.toks ≤ T → Q (.bool c) { s with toks := T }) : wpAny (model C.prog C.w) A (compareOp op a b) Q E s := by
  have k0 : Q (.bool c) s := k s.toks (Nat.le_refl _)
  have kb : ∀ c', c' = c → Q (.bool c') s := fun c' e => e ▸ k0
  unfold cmpop at e
  split at e
  · cases e; obtain ⟨t, rfl⟩ := ra; obtain ⟨u, rfl⟩ := rb
    exact PyProof.Rows.eq_int (kb _ (by rw [Bool.eq_iff_iff]; simp))
  · cases e; obtain ⟨t, rfl, _⟩ := ra; obtain ⟨u, rfl, _⟩ := rb
    exact PyProof.Rows.eq_str (kb _ str_eq_iff)
  · cases e; obtain ⟨t, rfl⟩ := ra; obtain ⟨u, rfl⟩ := rb
    exact PyProof.Rows.ne_int (kb _ (by rw [Bool.eq_iff_iff]; simp))
  · cases e; obtain ⟨t, rfl, _⟩ := ra; obtain ⟨u, rfl, _⟩ := rb
    exact PyProof.Rows.ne_str (kb _ (by rw [bne, str_eq_iff]))
  · cases e; obtain ⟨t, rfl⟩ := ra; obtain ⟨u, rfl⟩ := rb
    exact PyProof.Rows.lt_int (kb _ rfl)
  · cases e; obtain ⟨t, rfl⟩ := ra; obtain ⟨u, rfl⟩ := rb
    exact PyProof.Rows.le_int (kb _ rfl)
  · cases e; obtain ⟨t, rfl⟩ := ra; obtain ⟨u, rfl⟩ := rb
    exact PyProof.Rows.gt_int (kb _ rfl)
  · cases e; obtain ⟨t, rfl⟩ := ra; obtain ⟨u, rfl⟩ := rb
    exact PyProof.Rows.ge_int (kb _ rfl)
  · cases e; obtain ⟨t, rfl, _⟩ := ra; obtain ⟨u, rfl, _⟩ := rb
    exact PyProof.Rows.in_str (kb _ contains_is)
  · cases e; obtain ⟨t, rfl, _⟩ := ra; obtain ⟨u, rfl, _⟩ := rb
    exact PyProof.Rows.notIn_str (kb _ (congrArg (!·) contains_is))
  · split at e
    · rename_i ho; cases e
      exact cmp_in_obj ok0 G ho ra rb (k _ (Nat.le_succ _))
    · cases e
  · split at e
    · rename_i ho; cases e
      exact cmp_notin_obj ok0 G ho ra rb (k _ (Nat.le_succ _))
    · cases e
  · obtain rfl : b = .none := rb
    split at e
    · cases e; obtain rfl : a = .none := ra
      exact wpAny_is_self rfl (kb _ rfl)
    · cases e; obtain ⟨t, rfl, _⟩ := ra
      exact wpAny_is_other rfl (by simp) (kb _ rfl)
    · cases e
  · obtain rfl : b = .none := rb
    split at e
    · cases e; obtain rfl : a = .none := ra
      exact wpAny_isNot_self rfl (kb _ rfl)
    · cases e; obtain ⟨t, rfl, _⟩ := ra
      exact wpAny_isNot_other rfl (by simp) (kb _ rfl)
    · cases e
  · cases e

theorem sub_str {e i : Expr} {o j : Value} (hi : ∀ l u p, i ≠ .Slice l u none p) : subscripted i false o j = operate [o, j] (getItem o j) := by
  unfold subscripted
  split
  · rename_i h _; exact absurd rfl (hi _ _ _)
  · rename_i h; cases h
  · rfl
theorem noSlice {N : Nm} : ∀ (e : ME) (l u : Option Expr) (p : Pos), e.back N ≠ .Slice l u none p := by
  intro e l u p
  cases e <;> (try (intro h; cases h))
  rename_i sp ks vs p'
  cases sp <;> (intro h; cases h)

theorem idx_sound (ok0 : C.Ok) {x y v : V} {a b : Value} {ve se : Expr} (G : Gd C.w C.L C.G β s.toks h s.heap) (e : idxv C.X h x y = some v) (ra : VR C.L β s.toks x a) (rb : VR C.L β s.toks y b) (hs : ∀ l u p, se ≠ .Slice l u none p)
    (pst : Pst C s β h v Q) : wpAny (model C.prog C.w) A (subscriptTail ve se a b) Q E s := by
  have onObj : ∀ {o : O} {i : Int} {j : Nat} {x : V}, VR C.L β s.toks x a → VR C.L β s.toks (.int i) b → obj C.X h x = some o → (∀ vs, o = .list vs ∨ o = .tup vs → (nidx i vs.length).bind (fun j => vs[j]?) = some v) → (∃ vs, o = .list vs ∨ o = .tup vs) →
      wpAny (model C.prog C.w) A (subscriptTail ve se a b) Q E s := by
    intro o i j x ra rb ho hv hvs
    obtain ⟨u, rfl⟩ := rb
    obtain ⟨a, ob, rfl, q, z, lo⟩ := obj_at ok0 G ho ra
    obtain ⟨vs, hvs⟩ := hvs
    obtain ⟨j, hj, hvj⟩ := bind_some (hv vs hvs)
    obtain ⟨h1, h2, h3, h4⟩ := nidx_is hj
    rcases hvs with rfl | rfl
    · obtain ⟨items, hl, al, le⟩ := OR.isList q z
      obtain ⟨y, hy, r⟩ := al.get hvj
      have hy' : items[j]? = some y := by rw [← Array.getElem?_toList]; exact hy
      have hsz : items.size = vs.length := by rw [← Array.length_toList, al.length]
      refine tail_any hl.typeIs slot_list_getitem.lookup ?_ (sub_str (e := ve) hs)
      unfold LIM at le
      by_cases h0 : 0 ≤ i
      · refine wpAny_getItem_list hl h0 (by omega) ?_ (pst.here G r)
        unfold nidx at hj
        rw [if_pos h0] at hj
        split at hj
        · cases hj; exact hy'
        · cases hj
      · refine wpAny_getItem_list_neg hl (by omega) (by omega) (by omega) ?_ (pst.here G r)
        unfold nidx at hj
        rw [if_neg h0] at hj
        split at hj
        · cases hj; rw [hsz]; exact hy'
        · cases hj
    · obtain ⟨items, n, dd, sl, rfl, al, le⟩ := z
      obtain ⟨y, hy, r⟩ := al.get hvj
      have hsz : items.size = vs.length := by rw [← Array.length_toList, al.length]
      have hy' : items[j]? = some y := by rw [← Array.getElem?_toList]; exact hy
      unfold LIM at le
      have h5 : -(2 ^ 63) ≤ i := by omega
      have h6 : i < 2 ^ 63 := by omega
      exact item_tupleT (l := items.toList) ⟨_, q, rfl, n, by simp⟩ h5 h6 (j := j) (by rw [Array.length_toList, hsz]; exact h1) hy (pst.here G r) (sub_str (e := ve) hs)
  unfold idxv at e
  split at e
  · rename_i l i
    obtain ⟨c, e1, e2⟩ := map_some e
    obtain ⟨j, hj, hc⟩ := bind_some e1
    obtain ⟨h1, h2, h3, h4⟩ := nidx_is hj
    cases e2
    obtain ⟨t, rfl, _, _, hl⟩ := ra
    obtain ⟨u, rfl⟩ := rb
    unfold LIM at hl
    refine tail_any (typeIs_str _ _ _) F.slot_str_getitem.lookup (PySem.P.getItem_str (c := c) ?_ ?_ (pst.same G (Nat.le_succ _) ⟨_, rfl, G.pos, Nat.lt_succ_self _, by unfold LIM; simp⟩)) (sub_str (e := ve) hs)
    · simp; omega
    · have : (⟨l.toArray⟩ : Str).length = l.length := by simp [Str.length]
      rw [this, h1]
      simpa using hc
  · rename_i v i hne
    split at e
    · rename_i vs ho
      exact onObj ra rb ho (fun vs' h' => by rcases h' with h' | h' <;> cases h'; exact e) ⟨vs, .inl rfl⟩ (j := 0)
    · rename_i vs ho
      exact onObj ra rb ho (fun vs' h' => by rcases h' with h' | h' <;> cases h'; exact e) ⟨vs, .inr rfl⟩ (j := 0)
    · cases e
  · rename_i v k
    split at e
    · rename_i rep ep es ho
      obtain ⟨u, rfl, _⟩ := rb
      obtain ⟨a, ob, rfl, q, z, lo⟩ := obj_at ok0 G ho ra
      obtain ⟨f, hm, hf⟩ := OR.isMap (prog := C.prog) q z
      have := hf k
      rw [e] at this
      obtain ⟨y, hy, r⟩ := this
      exact tail_any hm.typeIs slot_dict_getitem.lookup (wpAny_getItem_of (knd := strKind C.prog C.w) (k := ⟨k.toArray⟩) (by exact beq_self_eq_true _) hm hy (pst.same G (Nat.le_succ _) (r.mono (Pre.refl _) (Nat.le_succ _)))) (sub_str (e := ve) hs)
    · cases e
  · cases e
end
end Mine

end

section
open PySem PySem.Calls PyProof.Rows PySem.W
namespace Mine

abbrev dictO (ents : List DictEntry) (ep : Nat) : Obj := ⟨.type "dict", none, .dict ents.toArray ep, #[]⟩
/-- a store into the entries -/
noncomputable def putD (k : List Nat) (t : Tok) (hash : Int) (x : Value) : List DictEntry → List DictEntry
  | [] => [⟨hash, .str ⟨k.toArray⟩ t, x⟩]
  | e :: r => if Value.isStrOf ⟨k.toArray⟩ e.key = true then { e with val := x } :: r else e :: putD k t hash x r
theorem putD_some {k : List Nat} {t : Tok} {hash : Int} {x : Value} : ∀ {ents : List DictEntry} {i : Nat}, (ents.findIdx? fun e => Value.isStrOf ⟨k.toArray⟩ e.key) = some i → ents.modify i (fun e => { e with val := x }) = putD k t hash x ents
  | [], _, h => by simp at h
  | e :: r, i, h => by
    rw [List.findIdx?_cons] at h
    unfold putD
    split at h
    · rename_i hk; cases h; rw [if_pos hk]; rfl
    · rename_i hk
      rw [if_neg hk]
      obtain ⟨j, hj, rfl⟩ := Option.map_eq_some_iff.mp h
      rw [← putD_some hj]; rfl
theorem putD_none {k : List Nat} {t : Tok} {hash : Int} {x : Value} : ∀ {ents : List DictEntry}, (ents.findIdx? fun e => Value.isStrOf ⟨k.toArray⟩ e.key) = none → ents ++ [⟨hash, .str ⟨k.toArray⟩ t, x⟩] = putD k t hash x ents
  | [], _ => rfl
  | e :: r, h => by
    rw [List.findIdx?_cons] at h
    unfold putD
    split at h
    · cases h
    · rename_i hk
      rw [if_neg hk, ← putD_none (Option.map_eq_none_iff.mp h)]; rfl
theorem putD_len {k : List Nat} {t : Tok} {hash : Int} {x : Value} : ∀ (ents : List DictEntry), (putD k t hash x ents).length = if (ents.findIdx? fun e => Value.isStrOf ⟨k.toArray⟩ e.key) = none then ents.length + 1 else ents.length
  | [] => rfl
  | e :: r => by
    rw [List.findIdx?_cons]
    unfold putD
    split
    · rfl
    · simp only [List.length_cons, putD_len r, Option.map_eq_none_iff]
      split <;> rfl

section
variable {C : Cx} {A : Around} {h : Hp} {v : V} {s : Shared} {β : List Addr} {E : Value → Shared → Prop}

/-- where the key stands: the same on both sides -/
theorem find_idx {w : World} {L : Pl} {T : Nat} {rep : Bool} (k : List Nat) : ∀ {es : List (List Nat × V)} {ents : List DictEntry}, All2 (ER w L β T rep) es ents →
    (ents.findIdx? fun e => Value.isStrOf ⟨k.toArray⟩ e.key) = (es.findIdx? fun e => e.1 == k)
  | [], [], _ => rfl
  | e :: es, d :: ents, al => by
    obtain ⟨t, h1, _⟩ := al.1
    rw [List.findIdx?_cons, List.findIdx?_cons, h1, isStrOf_key, find_idx k al.2]
  | [], _ :: _, al => al.elim
  | _ :: _, [], al => al.elim
theorem putE_len (k : List Nat) (v : V) : ∀ es : List (List Nat × V), (putE k v es).length = if (es.findIdx? fun e => e.1 == k) = none then es.length + 1 else es.length
  | [] => rfl
  | e :: r => by
    rw [List.findIdx?_cons]
    unfold putE
    by_cases hk : e.1 = k
    · simp [hk]
    · have : (e.1 == k) = false := beq_eq_false_iff_ne.mpr hk
      rw [if_neg hk, this]
      simp only [Bool.false_eq_true, if_false, List.length_cons, putE_len k v r, Option.map_eq_none_iff]
      split <;> rfl
theorem ER_weak {w : World} {L : Pl} {β' : List Addr} {T T' : Nat} {rep rep' : Bool} (hp : Pre β β') (ht : T ≤ T') (hr : rep' = true → rep = true) {e : List Nat × V} {d : DictEntry} : ER w L β T rep e d → ER w L β' T' rep' e d
  | ⟨t, a, b, c, d0, d1, d2, f⟩ => ⟨t, a, b, c.mono hp ht, d0, Nat.lt_of_lt_of_le d1 ht, d2, fun z => f (hr z)⟩
theorem ER_put {w : World} {L : Pl} {T T' : Nat} {rep rep' : Bool} {k : List Nat} {v : V} {x : Value} {t : Tok} (ht : T ≤ T') (t0 : 0 < t) (t1 : t < T') (hk : k.length ≤ LIM) (rv : VR L β T' v x) (hr : rep' = true → rep = true ∧ ∀ y u, x = .str y u → u ≠ t ∧ T ≤ u) :
    ∀ {es : List (List Nat × V)} {ents : List DictEntry}, All2 (ER w L β T rep) es ents → All2 (ER w L β T' rep') (putE k v es) (putD k t (hashStr w ⟨k.toArray⟩) x ents)
  | [], [], _ => ⟨⟨t, rfl, rfl, rv, t0, t1, hk, fun z y u e => ((hr z).2 y u e).1⟩, trivial⟩
  | e :: es, d :: ents, al => by
    obtain ⟨t', h1, h2, h3, h4, h5, h6, h7⟩ := al.1
    unfold putE putD
    rw [h1, isStrOf_key]
    by_cases hk' : e.1 = k
    · rw [if_pos hk', if_pos (by simpa using hk')]
      exact ⟨⟨t', rfl, h2, rv, h4, Nat.lt_of_lt_of_le h5 ht, h6, fun z y u e => Nat.ne_of_gt (Nat.lt_of_lt_of_le h5 ((hr z).2 y u e).2)⟩, al.2.mono fun _ _ => ER_weak (Pre.refl _) ht fun z => (hr z).1⟩
    · rw [if_neg hk', if_neg (by simpa using hk')]
      exact ⟨ER_weak (Pre.refl _) ht (fun z => (hr z).1) ⟨t', h1, h2, h3, h4, h5, h6, h7⟩, ER_put ht t0 t1 hk rv hr al.2⟩
  | [], _ :: _, al => al.elim
  | _ :: _, [], al => al.elim
theorem putE_keys {k : List Nat} {v : V} : ∀ {es : List (List Nat × V)}, (putE k v es).map (·.1) = if k ∈ es.map (·.1) then es.map (·.1) else es.map (·.1) ++ [k]
  | [] => rfl
  | e :: r => by
    unfold putE
    by_cases hk : e.1 = k
    · rw [if_pos hk, if_pos (by simp [hk])]; rfl
    · rw [if_neg hk, List.map_cons, putE_keys]
      by_cases hm : k ∈ r.map (·.1)
      · rw [if_pos hm, if_pos (by simp only [List.map_cons]; exact .tail _ hm)]; rfl
      · rw [if_neg hm, if_neg (by simp only [List.map_cons, List.mem_cons, not_or]; exact ⟨fun q => hk q.symm, hm⟩)]; rfl
theorem putE_nd {k : List Nat} {v : V} {es : List (List Nat × V)} (nd : (es.map (·.1)).Nodup) : ((putE k v es).map (·.1)).Nodup := by
  rw [putE_keys]
  split
  · exact nd
  · rename_i hm
    rw [List.nodup_append]
    refine ⟨nd, by simp, ?_⟩
    intro a ha b hb
    simp at hb; subst hb
    exact fun e => hm (e ▸ ha)
theorem putE_ep {k : List Nat} {v : V} {es : List (List Nat × V)} : epAll es [(k, v)] = if (es.findIdx? fun e => e.1 == k) = none then 1 else 0 := by
  show (putE k v es).length - es.length = _
  rw [putE_len]
  split <;> omega

theorem dictSet_at {d : Addr} {ents : List DictEntry} {ep : Nat} {k : List Nat} {t : Tok} {x : Value} {Q : Unit → Shared → Prop} (ho : s.heap.get? d = some (dictO ents ep)) (hk : ∀ e ∈ ents, ∃ k, Value.isStrOf k e.key = true ∧ e.hash = hashStr C.w k)
    (hsz : ents.length ≤ LIM)
    (k1 : ∀ H', H'.get? d = some (dictO (putD k t (hashStr C.w ⟨k.toArray⟩) x ents) (if (ents.findIdx? fun e => Value.isStrOf ⟨k.toArray⟩ e.key) = none then ep + 1 else ep)) → Heap.SameBut d s.heap H' → Q () { s with heap := H', toks := s.toks + 1 }) :
    wpAny (model C.prog C.w) A (dictSet d (.str ⟨k.toArray⟩ t) x) Q E s := by
  have hkey : (strKind C.prog C.w).is ⟨k.toArray⟩ (.str ⟨k.toArray⟩ t) = true := beq_self_eq_true _
  have hko : KeysOf (strKind C.prog C.w) ents.toArray := fun e he => hk e (by simpa using he)
  unfold dictSet
  try with_reducible refine wpAny_holding ?_
  refine wpAny_bind ((strKind C.prog C.w).pyHash hkey ?_)
  unfold dictSetHashed
  try with_reducible refine wpAny_holding ?_
  refine wpAny_bind (wpAny_dictFind_of (s := { s with toks := s.toks + 1 }) hkey ho rfl hko ?_)
  have hix : (ents.toArray.findIdx? fun e => (strKind C.prog C.w).is ⟨k.toArray⟩ e.key) = ents.findIdx? fun e => Value.isStrOf ⟨k.toArray⟩ e.key := by simp; rfl
  rw [hix]
  cases hi : ents.findIdx? fun e => Value.isStrOf ⟨k.toArray⟩ e.key with
  | some i =>
    refine wpAny_bind (wpAny_rule (wpAny_bind (wpAny_updateDict (s := { s with toks := s.toks + 1 }) ho rfl (wpAny_point (k1 _ ?_ (Heap.SameBut.update ..))))))
    refine (Heap.get?_update_self _ ho (by rfl)).trans ?_
    rw [hi, if_neg (by simp), ← putD_some hi]
    simp [Obj.mapDict, dictO]
  | none =>
    refine wpAny_bind (wpAny_rule (wpAny_updateDictKeys (hz := by rw [sizeLine_eq]; unfold LIM at hsz; simpa using hsz) (s := { s with toks := s.toks + 1 }) ho rfl (k1 _ ?_ (Heap.SameBut.update ..))))
    refine (Heap.get?_update_self _ ho (by rfl)).trans ?_
    rw [hi, if_pos rfl, ← putD_none hi]
    simp [Obj.mapDictKeys, dictO]
    rfl

theorem setItem_at {d : Addr} {ents : List DictEntry} {ep : Nat} {k : List Nat} {t : Tok} {x : Value} {Q : Unit → Shared → Prop} (ho : s.heap.get? d = some (dictO ents ep)) (hk : ∀ e ∈ ents, ∃ k, Value.isStrOf k e.key = true ∧ e.hash = hashStr C.w k)
    (hsz : ents.length ≤ LIM)
    (k1 : ∀ H', H'.get? d = some (dictO (putD k t (hashStr C.w ⟨k.toArray⟩) x ents) (if (ents.findIdx? fun e => Value.isStrOf ⟨k.toArray⟩ e.key) = none then ep + 1 else ep)) → Heap.SameBut d s.heap H' → Q () { s with heap := H', toks := s.toks + 1 }) :
    wpAny (model C.prog C.w) A (setItem (.ref d) (.str ⟨k.toArray⟩ t) x) Q E s := by
  have hT : s.TypeIs (.ref d) "dict" := ⟨_, ho, rfl⟩
  unfold setItem
  try with_reducible refine wpAny_holding ?_
  refine wpAny_bind (wpAny_sequenceKey hT (by decide) ?_)
  refine wpAny_bind (wpAny_callSpecial?_slot (name := Str.ofString "__setitem__") hT slot_dict_setitem
    (wpAny_call_entry slot_dict_setitem hT entry_dict_setitem ?_ (args_dict_setitem _ _ _)))
  show wpAny _ _ (Builtin.Dict.notOrdered "__setitem__" ⟨[.ref d, .str ⟨k.toArray⟩ t, x], []⟩ >>= _) _ _ s
  refine wpAny_bind (wpAny_notOrdered_dict hT ?_)
  show wpAny _ _ (dictSet d (.str ⟨k.toArray⟩ t) x >>= _) _ _ s
  exact wpAny_bind (dictSet_at ho hk hsz fun H' a b => wpAny_pure ⟨.none, rfl, wpAny_pure (k1 H' a b)⟩)
end
end Mine

end

section
open PySem PySem.Calls PyProof.Rows PySem.W
namespace Mine
open PySem.Builtin PySem.Builtin.Str

structure Gw (w : Writer) (T : Str) : Prop where
  text : w.text = T
  total : w.total = T.length
  whole : w.whole = none
  ne : w.pieces.isEmpty = false
theorem gw_first {x : Str} (hx : (x.length == 0) = false) : Gw (({} : Writer).add x none) x := by
  have e : ({} : Writer).add x none = { pieces := [x], total := 0 + x.length, whole := none } := by
    unfold Writer.add
    rw [if_neg (by rw [hx]; simp)]
    rfl
  rw [e]
  refine ⟨?_, by simp, rfl, rfl⟩
  show (⟨_⟩ : Str) = x
  exact Str.ext' (by simp)
theorem gw_add {w : Writer} {T x : Str} {o : Option Value} (g : Gw w T) : Gw (w.add x o) (T ++ x) := by
  by_cases hx : (x.length == 0) = true
  · have e : w.add x o = w := by unfold Writer.add; rw [if_pos hx]
    have hz : x.cps = #[] := Array.size_eq_zero_iff.mp (by simpa [PySem.Str.length] using hx)
    have ht : T ++ x = T := Str.ext' (by rw [Str.cps_append, hz, Array.append_empty])
    rw [e, ht]; exact g
  · have e : w.add x o = { pieces := x :: w.pieces, total := w.total + x.length, whole := none } := by
      unfold Writer.add
      rw [if_neg hx, g.ne]; rfl
    rw [e]
    refine ⟨?_, ?_, rfl, rfl⟩
    · have ht := g.text
      unfold Writer.text at ht ⊢
      simp only [List.reverse_cons, List.foldl_append, List.foldl_cons, List.foldl_nil]
      rw [← ht]
      exact Str.ext' (by rw [Str.cps_append])
    · show w.total + x.length = _
      rw [g.total, Str.length_append]
theorem gw_finish {M : Model} {A : Around} {E : Value → Shared → Prop} {s : Shared} {w : Writer} {T : Str} {id : String} {Q : Fin → Shared → Prop} (g : Gw w T) (hN : T.length ≤ 16777216)
    (h : Q (.done (.ret (.str T s.toks))) { s with toks := s.toks + 1 }) : wpAny M A (w.finish id) Q E s := by
  unfold Writer.finish
  rw [g.whole]
  refine wpAny_ite (KPc.ite_no (KPc.short (by rw [g.total]; exact hN)) ?_)
  rw [g.text]
  exact wpAny_bind (wpAny_mkStr (wpAny_pure h) (by rw [sizeLine_eq]; exact hN))

set_option maxRecDepth 100000 in
set_option maxHeartbeats 4000000 in
theorem pct_dq (y : Str) (t u : Tok) (hy : y.length ≤ 1000000) : Meets («str.__mod__» ⟨[.str ⟨#[34, 37, 115, 34]⟩ t, .str y u], []⟩)
    (fun _ R s => R (.ok (.ret (.str (⟨#[34]⟩ ++ y ++ ⟨#[34]⟩) s.toks))) { s with toks := s.toks + 1 }) := by
  refine Meets.of_wp fun prog w A _ s hS => ?_
  rw [KPc.entry_is_s]
  unfold Builtin.Str.percentFormat
  refine wpAny_bind (wpAny_isInstance (typeIs_str _ _ _) F.sub_str_tuple ?_)
  refine wpAny_bind (wpAny_of_eq (a := some _) rfl ?_)
  refine wpAny_bind (KPc.wp_fills_str ?_)
  intro _
  kpc_if
  refine wpAny_bind (wpAny_pure ?_)
  refine wpAny_bind ?_
  rw [KPc.range_list]
  refine KPc.turn ?_
  repeat kpc_if
  refine wpAny_pure ?_
  have g1 : Gw (({} : Writer).add ⟨#[34]⟩ none) ⟨#[34]⟩ := gw_first (by decide)
  refine KPc.turn ?_
  repeat kpc_if
  refine wpAny_bind ?_
  refine wpAny_holding ?_
  repeat kpc_if
  kpc_conv
  refine wpAny_pure ?_
  refine wpAny_pure ?_
  have g2 := gw_add (x := ⟨y.cps.toList.toArray⟩) (o := none) g1
  have hy2 : (⟨y.cps.toList.toArray⟩ : Str).length = y.length := by simp [Str.length]
  refine KPc.turn ?_
  refine wpAny_ite (KPc.ite_no (KPc.short ?_) ?_)
  · refine Nat.le_trans (Nat.le_of_eq g2.total) ?_
    rw [Str.length_append, hy2]
    have : (⟨#[34]⟩ : Str).length = 1 := rfl
    omega
  repeat kpc_if
  refine wpAny_pure ?_
  have g3 := gw_add (x := ⟨#[34]⟩) (o := none) g2
  have hl : (⟨#[34]⟩ ++ ⟨y.cps.toList.toArray⟩ ++ ⟨#[34]⟩ : Str).length ≤ 16777216 := by
    rw [Str.length_append, Str.length_append, hy2]
    have : (⟨#[34]⟩ : Str).length = 1 := rfl
    omega
  have e3 : (⟨y.cps.toList.toArray⟩ : Str) = y := congrArg PySem.Str.mk (Array.toArray_toList ..)
  rw [e3] at g3 hl
  refine KPc.turn ?_
  refine wpAny_ite (KPc.ite_no (KPc.short ?_) ?_)
  · refine Nat.le_trans (Nat.le_of_eq (by exact g3.total)) hl
  repeat kpc_if
  refine wpAny_pure ?_
  kpc_if
  refine gw_finish (by exact g3) hl ⟨_, rfl, hS⟩
set_option maxRecDepth 100000 in
set_option maxHeartbeats 4000000 in
theorem pct_sq (y : Str) (t u : Tok) (hy : y.length ≤ 1000000) : Meets («str.__mod__» ⟨[.str ⟨#[39, 37, 115, 39]⟩ t, .str y u], []⟩)
    (fun _ R s => R (.ok (.ret (.str (⟨#[39]⟩ ++ y ++ ⟨#[39]⟩) s.toks))) { s with toks := s.toks + 1 }) := by
  refine Meets.of_wp fun prog w A _ s hS => ?_
  rw [KPc.entry_is_s]
  unfold Builtin.Str.percentFormat
  refine wpAny_bind (wpAny_isInstance (typeIs_str _ _ _) F.sub_str_tuple ?_)
  refine wpAny_bind (wpAny_of_eq (a := some _) rfl ?_)
  refine wpAny_bind (KPc.wp_fills_str ?_)
  intro _
  kpc_if
  refine wpAny_bind (wpAny_pure ?_)
  refine wpAny_bind ?_
  rw [KPc.range_list]
  refine KPc.turn ?_
  repeat kpc_if
  refine wpAny_pure ?_
  have g1 : Gw (({} : Writer).add ⟨#[39]⟩ none) ⟨#[39]⟩ := gw_first (by decide)
  refine KPc.turn ?_
  repeat kpc_if
  refine wpAny_bind ?_
  refine wpAny_holding ?_
  repeat kpc_if
  kpc_conv
  refine wpAny_pure ?_
  refine wpAny_pure ?_
  have g2 := gw_add (x := ⟨y.cps.toList.toArray⟩) (o := none) g1
  have hy2 : (⟨y.cps.toList.toArray⟩ : Str).length = y.length := by simp [Str.length]
  refine KPc.turn ?_
  refine wpAny_ite (KPc.ite_no (KPc.short ?_) ?_)
  · refine Nat.le_trans (Nat.le_of_eq g2.total) ?_
    rw [Str.length_append, hy2]
    have : (⟨#[39]⟩ : Str).length = 1 := rfl
    omega
  repeat kpc_if
  refine wpAny_pure ?_
  have g3 := gw_add (x := ⟨#[39]⟩) (o := none) g2
  have hl : (⟨#[39]⟩ ++ ⟨y.cps.toList.toArray⟩ ++ ⟨#[39]⟩ : Str).length ≤ 16777216 := by
    rw [Str.length_append, Str.length_append, hy2]
    have : (⟨#[39]⟩ : Str).length = 1 := rfl
    omega
  have e3 : (⟨y.cps.toList.toArray⟩ : Str) = y := congrArg PySem.Str.mk (Array.toArray_toList ..)
  rw [e3] at g3 hl
  refine KPc.turn ?_
  refine wpAny_ite (KPc.ite_no (KPc.short ?_) ?_)
  · refine Nat.le_trans (Nat.le_of_eq (by exact g3.total)) hl
  repeat kpc_if
  refine wpAny_pure ?_
  kpc_if
  refine gw_finish (by exact g3) hl ⟨_, rfl, hS⟩

section
variable {C : Cx} {A : Around} {h : Hp} {v : V} {s : Shared} {β : List Addr} {Q : Value → Shared → Prop} {E : Value → Shared → Prop}
theorem pct_sound {f x : List Nat} {t u : Tok} (G : Gd C.w C.L C.G β s.toks h s.heap) (e : binop .Mod (.str f) (.str x) = some v) (pst : Pst C s β h v Q) :
    wpAny (model C.prog C.w) A (binaryOp .Mod (.str ⟨f.toArray⟩ t) (.str ⟨x.toArray⟩ u)) Q E s := by
  simp only [binop] at e
  split at e
  · rename_i hl
    have hl' : (⟨x.toArray⟩ : Str).length ≤ 1000000 := by simpa [Str.length] using hl
    split at e
    · rename_i hf
      cases e
      have hf' : f = [34, 37, 115, 34] := hf.trans (by decide +kernel)
      subst hf'
      refine binaryOp_meets (T := "str") (op := .Mod) (typeIs_str s _ t) (typeIs_str s _ u) F.fills_str_mod F.slot_str_mod F.entry_str_mod (F.args_str_mod_2 _ _) (pct_dq _ t u hl') ?_
      refine ⟨(fun e => nomatch e), pst.same G (Nat.le_succ _) ⟨_, ?_, G.pos, Nat.lt_succ_self _, by simp; unfold LIM; omega⟩⟩
      congr 1
      exact Str.ext' (by rw [Str.cps_append, Str.cps_append]; simp)
    · split at e
      · rename_i hf
        cases e
        have hf' : f = [39, 37, 115, 39] := hf.trans (by decide +kernel)
        subst hf'
        refine binaryOp_meets (T := "str") (op := .Mod) (typeIs_str s _ t) (typeIs_str s _ u) F.fills_str_mod F.slot_str_mod F.entry_str_mod (F.args_str_mod_2 _ _) (pct_sq _ t u hl') ?_
        refine ⟨(fun e => nomatch e), pst.same G (Nat.le_succ _) ⟨_, ?_, G.pos, Nat.lt_succ_self _, by simp; unfold LIM; omega⟩⟩
        congr 1
        exact Str.ext' (by rw [Str.cps_append, Str.cps_append]; simp)
      · cases e
  · cases e
end
end Mine

end

section
open PySem PySem.Calls PyProof.Rows PySem.W
namespace Mine
section
variable {C : Cx} {N : Nm} {sc : Scope} {env : Env} {A₀ : Addr} {A : Around} {d : Nat} {m : M} {h h' : Hp} {v : V} {s : Shared} {β : List Addr} {Q : Value → Shared → Prop} {E : Value → Shared → Prop} {S : Sm}

theorem with_toks {α : Type} {M : Model} {A : Around} {t : Sem α} {Q : α → Shared → Prop} {E : Value → Shared → Prop} (h : wpAny M A t (fun x s' => s.toks ≤ s'.toks → Q x s') E s) : wpAny M A t Q E s :=
  wpAny_mono (wpAny_toks_of (Nat.le_refl _) h) (fun a s' h => h.2 h.1) (fun e s' h => h.2)

theorem rep_sound (ok0 : C.Ok) {l y z : List Nat} {x : Value} {u v' : Tok} (G : Gd C.w C.L C.G β s.toks h s.heap) (rx : VR C.L β s.toks (.str l) x) (hu : 0 < u) (hv : 0 < v') (huv : u ≠ v') (hy : y ≠ [])
    (hl : l.length + (l.length + 1) * z.length ≤ LIM) (pst : Pst C s β h (.str (replace y z l)) Q) :
    wpAny (model C.prog C.w) A (call (.builtin "str.replace") [x, .str ⟨y.toArray⟩ u, .str ⟨z.toArray⟩ v']) Q E s := by
  obtain ⟨t, rfl, t0, t1, tl⟩ := rx
  have hb : NoneBooked s.heap := by
    obtain ⟨mc, h1, h2⟩ := ok0.booked
    exact ⟨mc, h1.keeps G.base, h2⟩
  have hxl : (⟨l.toArray⟩ : Str).length = l.length := by simp [Str.length]
  have hzl : (⟨z.toArray⟩ : Str).length = z.length := by simp [Str.length]
  have hll : Builtin.Str.tooLong ((⟨l.toArray⟩ : Str).length + (Builtin.Str.occurrences ⟨l.toArray⟩ ⟨y.toArray⟩ 0 (⟨l.toArray⟩ : Str).length ((⟨l.toArray⟩ : Str).length + 1)).length * (⟨z.toArray⟩ : Str).length) = false := by
    have h1 := StrLaws.occ_length_le ⟨l.toArray⟩ ⟨y.toArray⟩ 0 (⟨l.toArray⟩ : Str).length ((⟨l.toArray⟩ : Str).length + 1)
    have h2 := Nat.mul_le_mul_right (⟨z.toArray⟩ : Str).length h1
    unfold Builtin.Str.tooLong sizeLine
    unfold LIM at hl
    rw [hzl, hxl] at *
    exact decide_eq_false (by omega)
  have hrl : (replace y z l).length ≤ LIM := by
    have := replace_len (z := z) (l := l) hy
    rw [Nat.succ_mul] at hl
    omega
  refine call_givesAt F.slot_str_replace (typeIs_str _ _ _) F.entry_str_replace (F.args_str_replace_3 _ _ _) (gives_str_replace2 ⟨l.toArray⟩ ⟨y.toArray⟩ ⟨z.toArray⟩ t u v' fun _ => ⟨by simp; exact ⟨Nat.ne_of_gt hu, Nat.ne_of_gt hv⟩, by simp [huv], hll⟩) hb ?_
  have key := replace_is (l := l) (z := z) hy
  unfold Txt.replace at key
  cases hc : ((Builtin.Str.occurrences ⟨l.toArray⟩ ⟨y.toArray⟩ 0 (⟨l.toArray⟩ : Str).length ((⟨l.toArray⟩ : Str).length + 1)).isEmpty || ((⟨y.toArray⟩ : Str).length == 0 && (⟨z.toArray⟩ : Str).length == 0))
  · rw [hc] at key
    simp only [Bool.false_eq_true, if_false] at key ⊢
    have fresh : (Made.str (Builtin.Str.glued ⟨z.toArray⟩ (Builtin.Str.partsBetween ⟨l.toArray⟩ (Builtin.Str.occurrences ⟨l.toArray⟩ ⟨y.toArray⟩ 0 (⟨l.toArray⟩ : Str).length ((⟨l.toArray⟩ : Str).length + 1)) (⟨y.toArray⟩ : Str).length))).post Q s := by
      rw [key]
      refine ⟨by rw [sizeLine_eq]; simp [Str.length]; exact hrl, pst.same G (Nat.le_succ _) ⟨_, rfl, G.pos, Nat.lt_succ_self _, hrl⟩⟩
    cases hyz : ((⟨y.toArray⟩ : Str) == ⟨z.toArray⟩)
    · simp only [Bool.false_eq_true, if_false]
      exact fresh
    · simp only [if_true]
      refine ⟨?_, fresh⟩
      have e : (⟨y.toArray⟩ : Str) = ⟨z.toArray⟩ := eq_of_beq hyz
      have key2 := replace_is (l := l) (z := z) hy
      rw [← e, Txt.replace_self] at key2
      exact pst.here G ⟨t, by rw [key2], t0, t1, hrl⟩
  · rw [hc] at key
    simp only [if_true] at key ⊢
    exact pst.here G ⟨t, by rw [key], t0, t1, hrl⟩

theorem star_plain : ∀ as : MEs, starEach (as.back N) env = (as.back N).map fun e => (false, eval e env)
  | .nil => rfl
  | .cons e r => by
    have : starEach (e.back N :: r.back N) env = (false, eval (e.back N) env) :: starEach (r.back N) env := by
      cases e <;> (try rfl)
      rename_i sp ks vs p
      cases sp <;> rfl
    show starEach (e.back N :: r.back N) env = _
    rw [this, star_plain r]; rfl
theorem back_plain (pos : Pos) (l : List Expr) : backTo pos (l.map fun e => (false, eval e env)) = l.map fun e => (false, eval e env) := by
  simp [backTo]
theorem trees (pos : Pos) (as : MEs) : backTo pos (starEach (as.back N) env) = (as.back N).map fun e => (false, eval e env) := by rw [star_plain, back_plain]

noncomputable def PstL (C : Cx) (s : Shared) (β : List Addr) (h' : Hp) (vs : List V) (Q : List Value → Shared → Prop) : Prop :=
  ∀ xs β' H' T', s.toks ≤ T' → Ext β s.heap β' H' → Gd C.w C.L C.G β' T' h' H' → All2 (VR C.L β' T') vs xs → Q xs { s with heap := H', toks := T' }

theorem args_sound (ih : SEv C S d) (V₀ : EnvOk C N sc env A₀) (hA : AOk A d) : ∀ (as : MEs) (h h' : Hp) (vs : List V), as.ok N sc = true → evs S as m h = some (vs, h') → ∀ (s : Shared) (β : List Addr) (Q : List Value → Shared → Prop) (E : Value → Shared → Prop), Gd C.w C.L C.G β s.toks h s.heap → Frm C.L C.G N β s.toks m A₀ s.heap →
    PstL C s β h' vs Q → wpAny (model C.prog C.w) A (spliced ((as.back N).map fun e => (false, eval e env))) Q E s
  | .nil, h, h', vs, _, e, s, β, Q, E, G, F, pst => by
    cases e
    exact spliced_nil (pst [] β s.heap s.toks (Nat.le_refl _) (Ext.refl _ _) G trivial)
  | .cons x r, h, h', vs, ok, e, s, β, Q, E, G, F, pst => by
    obtain ⟨⟨v, h1⟩, e1, e2⟩ := bind_some e
    obtain ⟨⟨vs', h2⟩, e3, e4⟩ := bind_some e2
    cases e4
    have ok' := Bool.and_eq_true_iff.mp ok
    refine spliced_cons (ih x N sc env A₀ A m h h1 v ok'.1 V₀ hA e1 s β _ E G F fun y β1 H1 T1 t1 x1 g1 r1 => ?_)
    refine args_sound ih V₀ hA r h1 h' vs' ok'.2 e3 { s with heap := H1, toks := T1 } β1 _ E g1 (F.ext x1 t1) fun ys β2 H2 T2 t2 x2 g2 r2 => ?_
    exact pst (y :: ys) β2 H2 T2 (Nat.le_trans t1 t2) (x1.trans x2) g2 ⟨r1.mono x2.pre t2, r2⟩

theorem withB {id : String} {first : List Value} {pos : Pos} {as : MEs} (hp : wpAny (model C.prog C.w) A (spliced ((as.back N).map fun e => (false, eval e env))) (fun xs s' => wpAny (model C.prog C.w) A (call (.builtin id) (first ++ xs)) Q E s') E s) :
    wpAny (model C.prog C.w) A (callWith pos (.builtin id) first (backTo pos (starEach (as.back N) env)) []) Q E s := by
  rw [trees]
  refine callWith_builtin (by simp) ?_
  cases as with
  | nil =>
    refine PySem.evalArgs_none ?_
    have := hp
    simp only [MEs.back, List.map_nil] at this
    exact fun Γ p hΓ => (this Γ p hΓ) Γ p hΓ
  | cons x r => exact evalArgs_plain hp
end
end Mine

end

section
open PySem PySem.Calls PyProof.Rows PySem.W
namespace Mine

/-- written pairs as they are evaluated, one behind the other -/
noncomputable def CRs (L : Pl) (T T' : Nat) : List (List Nat × V) → List (Value × Value) → Prop
  | [], [] => T ≤ T'
  | p :: es, kv :: r => ∃ t T2, kv.1 = .str ⟨p.1.toArray⟩ t ∧ T ≤ t ∧ t < T2 ∧ VR L [] T2 p.2 kv.2 ∧ (∀ y u, kv.2 = .str y u → u ≠ t) ∧ 0 < t ∧ p.1.length ≤ LIM ∧ CRs L T2 T' es r
  | _, _ => False
theorem CRs.le {L : Pl} : ∀ {es : List (List Nat × V)} {r : List (Value × Value)} {T T' : Nat}, CRs L T T' es r → T ≤ T'
  | [], [], _, _, h => h
  | _ :: _, _ :: _, _, _, ⟨t, T2, _, h1, h2, _, _, _, _, h3⟩ => by
    have := CRs.le h3
    exact Nat.le_trans (Nat.le_of_lt (Nat.lt_of_le_of_lt h1 h2)) this
  | [], _ :: _, _, _, h => h.elim
  | _ :: _, [], _, _, h => h.elim
theorem CRs.len {L : Pl} : ∀ {es : List (List Nat × V)} {r : List (Value × Value)} {T T' : Nat}, CRs L T T' es r → es.length = r.length
  | [], [], _, _, h => rfl
  | _ :: _, _ :: _, _, _, ⟨t, T2, _, h1, h2, _, _, _, _, h3⟩ => by rw [List.length_cons, List.length_cons, CRs.len h3]
  | [], _ :: _, _, _, h => h.elim
  | _ :: _, [], _, _, h => h.elim

/-- the trees of written pairs -/
noncomputable def pairTrees (N : Nm) (env : Env) (pos : Pos) : MEs → MEs → List (Sem Value × Sem Value)
  | .cons k ks, .cons v vs => (eval (k.back N) env, do let x ← eval (v.back N) env; standAt pos; pure x) :: pairTrees N env pos ks vs
  | _, _ => []
theorem pairs_inv {ks vs : MEs} {es : List (List Nat × V)} (e : pairs ks vs = some es) : (ks = .nil ∧ vs = .nil ∧ es = []) ∨ ∃ k p c q ks' vs' r, ks = .cons (.cst (.str k) p) ks' ∧ vs = .cons (.cst c q) vs' ∧ pairs ks' vs' = some r ∧ es = (lit k, c.val) :: r := by
  cases ks with
  | nil =>
    cases vs with
    | nil => cases e; exact .inl ⟨rfl, rfl, rfl⟩
    | cons _ _ => cases e
  | cons x ks' =>
    cases x <;> try (exfalso; cases vs <;> cases e)
    rename_i c0 p
    cases c0 <;> try (exfalso; cases vs <;> cases e)
    rename_i k
    cases vs with
    | nil => cases e
    | cons y vs' =>
      cases y <;> try (exfalso; cases e)
      rename_i c q
      obtain ⟨r, h1, h2⟩ := map_some e
      exact .inr ⟨k, p, c, q, ks', vs', r, rfl, rfl, h1, h2.symm⟩
theorem pairTrees_zip {N : Nm} {env : Env} {pos : Pos} : ∀ {es : List (List Nat × V)} {ks vs : MEs}, pairs ks vs = some es →
    (evalEachOpt (ks.backSome N) env).zip ((evalEach (vs.back N) env).map fun v => do let x ← v; standAt pos; pure x) = (pairTrees N env pos ks vs).map fun p => (some p.1, p.2)
  | [], ks, vs, e => by
    rcases pairs_inv e with ⟨rfl, rfl, _⟩ | ⟨_, _, _, _, _, _, _, _, _, _, h⟩
    · rfl
    · cases h
  | a :: es, ks, vs, e => by
    rcases pairs_inv e with ⟨_, _, h⟩ | ⟨k, p, c, q, ks', vs', r, rfl, rfl, h1, h2⟩
    · cases h
    · cases h2
      have := pairTrees_zip (N := N) (env := env) (pos := pos) h1
      show (_ :: evalEachOpt (ks'.backSome N) env).zip (_ :: (evalEach (vs'.back N) env).map _) = _
      rw [List.zip_cons_cons, this]; rfl
theorem pairTrees_len {N : Nm} {env : Env} {pos : Pos} : ∀ {ks vs : MEs}, (pairTrees N env pos ks vs).length ≤ ks.len
  | .nil, .nil => Nat.le_refl _
  | .nil, .cons _ _ => Nat.le_refl _
  | .cons _ _, .nil => Nat.zero_le _
  | .cons _ ks, .cons _ vs => by
    show (pairTrees N env pos ks vs).length + 1 ≤ ks.len + 1
    exact Nat.succ_le_succ pairTrees_len
theorem pairs_len : ∀ {es : List (List Nat × V)} {ks vs : MEs}, pairs ks vs = some es → es.length = ks.len ∧ es.map (·.1) = ks.keys
  | [], ks, vs, e => by
    rcases pairs_inv e with ⟨rfl, rfl, _⟩ | ⟨_, _, _, _, _, _, _, _, _, _, h⟩
    · exact ⟨rfl, rfl⟩
    · cases h
  | a :: es, ks, vs, e => by
    rcases pairs_inv e with ⟨_, _, h⟩ | ⟨k, p, c, q, ks', vs', r, rfl, rfl, h1, h2⟩
    · cases h
    · cases h2
      obtain ⟨a, b⟩ := pairs_len h1
      exact ⟨by rw [List.length_cons, a]; rfl, by rw [List.map_cons, b]; rfl⟩

section
variable {C : Cx} {N : Nm} {sc : Scope} {env : Env} {A₀ : Addr} {A : Around} {d : Nat} {m : M} {h h' : Hp} {v : V} {s : Shared} {β : List Addr} {E : Value → Shared → Prop} {S : Sm}

/-- written texts are short -/
noncomputable def short : MEs → Prop
  | .cons (.cst (.str k) _) r => (lit k).length ≤ LIM ∧ short r
  | .cons _ r => short r
  | .nil => True

theorem short_of : ∀ {ks : MEs}, ks.short = true → short ks
  | .nil, _ => trivial
  | .cons x r, h => by
    have ih := short_of (ks := r)
    cases x with
    | cst c p =>
      have h' := Bool.and_eq_true_iff.mp h
      cases c with
      | str k => exact ⟨by have := h'.1; simp [C0.short] at this; unfold LIM; omega, ih h'.2⟩
      | _ => exact ih h'.2
    | _ => exact ih h
theorem cst_pair {c : C0} {q pos : Pos} {Q : Value → Shared → Prop} (hl : ∀ x, c = .str x → (lit x).length ≤ LIM) (h0 : 0 < s.toks)
    (k : ∀ x T, s.toks ≤ T → VR C.L [] T c.val x → (∀ y u, x = .str y u → s.toks ≤ u) → Q x { s with toks := T }) :
    wpAny (model C.prog C.w) A (do let x ← eval ((ME.cst c q).back N) env; standAt pos; pure x) Q E s := by
  have fin : ∀ {Q : Value → Shared → Prop}, (∀ x T, s.toks ≤ T → VR C.L [] T c.val x → (∀ y u, x = .str y u → s.toks ≤ u) → Q x { s with toks := T }) → wpAny (model C.prog C.w) A (eval ((ME.cst c q).back N) env) Q E s := by
    intro Q k
    cases c with
    | none => exact fun _ _ _ => k .none s.toks (Nat.le_refl _) rfl (fun _ _ e => nomatch e)
    | bool b => exact fun _ _ _ => k (.bool b) s.toks (Nat.le_refl _) rfl (fun _ _ e => nomatch e)
    | int i => exact wpAny_Constant_int (k _ _ (Nat.le_succ _) ⟨_, rfl⟩ (fun _ _ e => nomatch e))
    | str x => exact Constant_str (k _ _ (Nat.le_succ _) (vr_lit x h0 (Nat.lt_succ_self _) (hl x rfl)) (fun y u e => by cases e; exact Nat.le_refl _))
  exact wpAny_bind (fin fun x T a b c => wpAny_bind (wpAny_standAt (wpAny_pure (k x T a b c))))

theorem evalPairs_sound {pos : Pos} : ∀ {es : List (List Nat × V)} {ks vs : MEs}, pairs ks vs = some es → short ks → short vs → ∀ (s : Shared) (Q : List (Value × Value) → Shared → Prop), 0 < s.toks →
    (∀ kvs T, CRs C.L s.toks T es kvs → Q kvs { s with toks := T }) → wpAny (model C.prog C.w) A (evalPairs (pairTrees N env pos ks vs)) Q E s
  | [], ks, vs, e, _, _, s, Q, h0, k => by
    rcases pairs_inv e with ⟨rfl, rfl, _⟩ | ⟨_, _, _, _, _, _, _, _, _, _, h⟩
    · exact evalPairs_nil (k [] s.toks (Nat.le_refl _))
    · cases h
  | a :: es, ks, vs, e, hs1, hs2, s, Q, h0, k => by
    rcases pairs_inv e with ⟨_, _, h⟩ | ⟨key, p, c, q, ks', vs', r, rfl, rfl, h1, h2⟩
    · cases h
    · cases h2
      refine evalPairs_cons (Constant_str ?_)
      refine cst_pair (s := { s with toks := s.toks + 1 }) (fun x hx => by subst hx; exact hs2.1) (Nat.succ_pos _) fun x T a b c' => ?_
      have hs2' : short vs' := by cases c <;> first | exact hs2 | exact hs2.2
      refine evalPairs_sound h1 hs1.2 hs2' { s with toks := T } _ (Nat.lt_of_lt_of_le (Nat.succ_pos _) a) fun kvs T' hc => ?_
      refine k _ T' ⟨s.toks, T, rfl, Nat.le_refl _, a, b, fun y u e => ?_, h0, hs1.1, hc⟩
      have := c' y u e
      exact Nat.ne_of_gt this

theorem nokey_idx {w : World} {L : Pl} {T : Nat} {rep : Bool} {k : List Nat} {es : List (List Nat × V)} {ents : List DictEntry} (al : All2 (ER w L β T rep) es ents) (hn : k ∉ es.map (·.1)) : (ents.findIdx? fun e => Value.isStrOf ⟨k.toArray⟩ e.key) = none := by
  rw [find_idx k al, List.findIdx?_eq_none_iff]
  intro e he
  refine beq_eq_false_iff_ne.mpr fun q => hn (q ▸ List.mem_map_of_mem he)
theorem putD_new {k : List Nat} {t : Tok} {hash : Int} {x : Value} {ents : List DictEntry} (hn : (ents.findIdx? fun e => Value.isStrOf ⟨k.toArray⟩ e.key) = none) : putD k t hash x ents = ents ++ [⟨hash, .str ⟨k.toArray⟩ t, x⟩] := (putD_none hn).symm

theorem store_all {dd : Addr} : ∀ (es : List (List Nat × V)) (kvs : List (Value × Value)) (acc : List (List Nat × V)) (ents : List DictEntry) (ep T T' : Nat) (s : Shared) (Q : PUnit → Shared → Prop), CRs C.L T T' es kvs → All2 (ER C.w C.L [] T true) acc ents →
    ((acc ++ es).map (·.1)).Nodup → acc.length + es.length ≤ LIM → s.heap.get? dd = some (dictO ents ep) →
    (∀ H' ents', H'.get? dd = some (dictO ents' (ep + es.length)) → All2 (ER C.w C.L [] T' true) (acc ++ es) ents' → Heap.SameBut dd s.heap H' → Q ⟨⟩ { s with heap := H', toks := s.toks + kvs.length }) →
    wpAny (model C.prog C.w) A (forIn kvs PUnit.unit fun (x : Value × Value) (_ : PUnit) => (do dictSet dd x.1 x.2; pure (ForInStep.yield PUnit.unit) : Sem (ForInStep PUnit))) Q E s
  | [], [], acc, ents, ep, T, T', s, Q, hc, al, nd, sz, ho, k => by
    rw [List.forIn_nil]
    exact wpAny_pure (k s.heap ents (by simpa using ho) (by simpa using al.mono fun _ _ => ER.mono (Pre.refl _) hc) (Heap.SameBut.refl _ _))
  | p :: es, kv :: kvs, acc, ents, ep, T, T', s, Q, hc, al, nd, sz, ho, k => by
    obtain ⟨t, T2, e1, h1, h2, h3, h4, h5, h6, h7⟩ := hc
    obtain ⟨kk, vv⟩ := kv
    cases e1
    have hnk : p.1 ∉ acc.map (·.1) := by
      rw [List.map_append, List.nodup_append] at nd
      exact fun hm => nd.2.2 _ hm p.1 (by simp) rfl
    have hno := nokey_idx al hnk
    rw [List.length_cons] at sz
    rw [List.forIn_cons]
    refine wpAny_bind (wpAny_bind (dictSet_at ho (fun e he => keys_dict al e he) (by rw [← al.length]; omega) fun H1 g1 s1 => wpAny_pure ?_))
    rw [hno, if_pos rfl, putD_new hno] at g1
    have al2 : All2 (ER C.w C.L [] T2 true) (acc ++ [p]) (ents ++ [⟨hashStr C.w ⟨p.1.toArray⟩, .str ⟨p.1.toArray⟩ t, vv⟩]) :=
      All2.append (al.mono fun _ _ => ER.mono (Pre.refl _) (Nat.le_of_lt (Nat.lt_of_le_of_lt h1 h2))) ⟨⟨t, rfl, rfl, h3, h5, h2, h6, fun _ y u e => h4 y u e⟩, trivial⟩
    refine store_all es kvs (acc ++ [p]) _ (ep + 1) T2 T' _ Q h7 al2 (by simpa using nd) (by simp; omega) g1 fun H' ents' a b c => ?_
    have := k H' ents' (by simpa [Nat.add_assoc, Nat.add_comm 1] using a) (by simpa using b) (s1.trans c)
    simpa [Nat.add_assoc, Nat.add_comm 1] using this
  | [], _ :: _, _, _, _, _, _, _, _, hc, _, _, _, _, _ => hc.elim
  | _ :: _, [], _, _, _, _, _, _, _, hc, _, _, _, _, _ => hc.elim

theorem subDict_sound {pos : Pos} {ks vs : MEs} {es : List (List Nat × V)} {Q : Addr → Shared → Prop} (e : pairs ks vs = some es) (h1 : short ks) (h2 : short vs) (hl : ks.len ≤ 15) (nd : ks.keys.Nodup) (h0 : 0 < s.toks)
    (k : ∀ H' ents T, s.toks ≤ T → H'.get? s.heap.objs.size = some (dictO ents es.length) → All2 (ER C.w C.L [] T true) es ents → (∀ b o, s.heap.get? b = some o → H'.get? b = some o) → Q s.heap.objs.size { s with heap := H', toks := T }) :
    wpAny (model C.prog C.w) A (subDict (pairTrees N env pos ks vs)) Q E s := by
  obtain ⟨el, ek⟩ := pairs_len e
  unfold subDict
  refine wpAny_bind (wpAny_alloc ?_)
  refine wpAny_bind (wpAny_holding ?_)
  rw [if_pos (Nat.le_trans pairTrees_len hl)]
  refine wpAny_bind (evalPairs_sound e h1 h2 { s with heap := s.heap.push { cls := .type "dict", data := .dict #[] } } _ h0 fun kvs T hc => ?_)
  refine wpAny_holding ?_
  have hT := hc.le
  refine wpAny_bind (store_all (dd := s.heap.objs.size) es kvs [] [] 0 s.toks T _ _ hc trivial (by simpa [ek] using nd) (by simp; unfold LIM; omega) (Heap.get?_push_size _ rfl) fun H' ents' a b c => wpAny_pure (wpAny_pure ?_))
  have c1 : ∀ b o, s.heap.get? b = some o → H'.get? b = some o := fun b o q => (c.2 b (Nat.ne_of_lt (Heap.lt_size q))).trans (Heap.get?_push_of_some _ q)
  refine k H' ents' (T + kvs.length) (Nat.le_trans hT (Nat.le_add_right _ _)) (by simpa using a) (by simpa using b.mono fun _ _ => ER.mono (Pre.refl _) (Nat.le_add_right _ _)) c1

theorem dictPut_new {dd : Addr} {ents : List DictEntry} {ep : Nat} {e : DictEntry} {k : List Nat} {t : Tok} {Q : Unit → Shared → Prop} (hd : s.heap.get? dd = some (dictO ents ep)) (hk : ∀ e ∈ ents, ∃ k, Value.isStrOf k e.key = true ∧ e.hash = hashStr C.w k)
    (e1 : e.key = .str ⟨k.toArray⟩ t) (e2 : e.hash = hashStr C.w ⟨k.toArray⟩) (hn : (ents.findIdx? fun e => Value.isStrOf ⟨k.toArray⟩ e.key) = none) (sz : ents.length ≤ LIM)
    (k1 : ∀ H', H'.get? dd = some (dictO (ents ++ [e]) (ep + 1)) → Heap.SameBut dd s.heap H' → Q () { s with heap := H' }) :
    wpAny (model C.prog C.w) A (dictPut dd e.hash e.key e.val) Q E s := by
  have hko : KeysOf (strKind C.prog C.w) ents.toArray := fun e he => hk e (by simpa using he)
  obtain ⟨hash, key, val⟩ := e
  cases e1
  cases e2
  unfold dictPut
  refine wpAny_bind (wpAny_dictFind_of (knd := strKind C.prog C.w) (k := ⟨k.toArray⟩) (by exact beq_self_eq_true _) hd rfl hko ?_)
  have hix : (ents.toArray.findIdx? fun e => (strKind C.prog C.w).is ⟨k.toArray⟩ e.key) = none := by
    have : (ents.toArray.findIdx? fun e => (strKind C.prog C.w).is ⟨k.toArray⟩ e.key) = ents.findIdx? fun e => Value.isStrOf ⟨k.toArray⟩ e.key := by simp; rfl
    rw [this, hn]
  rw [hix]
  refine wpAny_updateDictKeys (hz := by rw [sizeLine_eq]; unfold LIM at sz; simpa using sz) hd rfl (k1 _ ?_ (Heap.SameBut.update ..))
  refine (Heap.get?_update_self _ hd (by rfl)).trans ?_
  simp [Obj.mapDictKeys, dictO]

theorem merge_loop {dd a : Addr} {more : List (List Nat × V)} {src : List DictEntry} {ep2 T : Nat} {rep rep2 : Bool} (hne : a ≠ dd) (al2 : All2 (ER C.w C.L β T rep2) more src)
    (f : Nat → PUnit → Sem (ForInStep PUnit)) (hf : ∀ i u, f i u = (do
      match (← dictEntries a)[i]? with
      | some e => do
        holding [e.key, e.val] (dictPut dd e.hash e.key e.val)
        if ((← dictEpoch a) != ep2) = true then do
          unsupported "dict.changed-during-merge"
          pure (ForInStep.yield PUnit.unit)
        else pure (ForInStep.yield PUnit.unit)
      | _ => do
        unsupported "dict.changed-during-merge"
        pure (ForInStep.yield PUnit.unit))) :
    ∀ (n j : Nat) (acc : List (List Nat × V)) (ents : List DictEntry) (ep : Nat) (s : Shared) (Q : PUnit → Shared → Prop), j + n = src.length → s.heap.get? dd = some (dictO ents ep) → s.heap.get? a = some (dictO src ep2) →
      All2 (ER C.w C.L β T rep) acc ents → ((acc ++ more.drop j).map (·.1)).Nodup → acc.length + n ≤ LIM →
      (∀ H', H'.get? dd = some (dictO (ents ++ src.drop j) (ep + n)) → Heap.SameBut dd s.heap H' → Q ⟨⟩ { s with heap := H' }) →
      wpAny (model C.prog C.w) A (forIn (List.range' j n) PUnit.unit f) Q E s
  | 0, j, acc, ents, ep, s, Q, hj, hd, ha, al, nd, sz, k => by
    rw [List.range'_zero, List.forIn_nil]
    have : src.drop j = [] := List.drop_eq_nil_of_le (by omega)
    rw [this, List.append_nil] at k
    exact wpAny_pure (k s.heap hd (Heap.SameBut.refl _ _))
  | n + 1, j, acc, ents, ep, s, Q, hj, hd, ha, al, nd, sz, k => by
    have hjl : j < src.length := by omega
    have hml : j < more.length := by rw [al2.length]; exact hjl
    obtain ⟨d, hd2, her⟩ := al2.get (List.getElem?_eq_getElem hml)
    have hsd : src.drop j = d :: src.drop (j + 1) := by
      rw [List.drop_eq_getElem_cons hjl]
      rw [List.getElem?_eq_getElem hjl] at hd2
      cases hd2; rfl
    have hmd : more.drop j = more[j] :: more.drop (j + 1) := List.drop_eq_getElem_cons hml
    obtain ⟨t, e1, e2, e3, e4, e5, e6, e7⟩ := her
    have hnk : more[j].1 ∉ acc.map (·.1) := by
      rw [hmd, List.map_append, List.nodup_append] at nd
      exact fun hm => nd.2.2 _ hm more[j].1 (by rw [List.map_cons]; exact .head _) rfl
    have hno := nokey_idx al hnk
    rw [List.range'_succ, List.forIn_cons, hf]
    refine wpAny_bind (wpAny_bind (wpAny_dictEntries ha rfl ?_))
    have : (src.toArray)[j]? = some d := by simpa using hd2
    rw [this]
    refine wpAny_bind (wpAny_holding (dictPut_new hd (fun e he => keys_dict al e he) e1 e2 hno (by rw [← al.length]; omega) fun H1 g1 s1 => ?_))
    have ha1 : H1.get? a = some (dictO src ep2) := (s1.2 a hne).trans ha
    refine wpAny_bind (wpAny_dictEpoch (s := { s with heap := H1 }) ha1 rfl ?_)
    rw [if_neg (by simp)]
    refine wpAny_pure ?_
    have al3 : All2 (ER C.w C.L β T (rep && rep2)) (acc ++ [more[j]]) (ents ++ [d]) :=
      All2.append (al.mono fun _ _ => ER_weak (Pre.refl _) (Nat.le_refl _) (by simp; exact fun a _ => a)) ⟨ER_weak (Pre.refl _) (Nat.le_refl _) (by simp) ⟨t, e1, e2, e3, e4, e5, e6, e7⟩, trivial⟩
    refine merge_loop (rep := rep && rep2) hne al2 f hf n (j + 1) (acc ++ [more[j]]) (ents ++ [d]) (ep + 1) _ Q (by omega) g1 ha1 al3 (by rw [hmd] at nd; simpa using nd) (by simp; omega) fun H' a b => ?_
    exact k H' (by rw [hsd]; simpa [Nat.add_assoc, Nat.add_comm 1] using a) (s1.trans b)

theorem merge_new {dd a : Addr} {acc more : List (List Nat × V)} {ents src : List DictEntry} {ep ep2 T : Nat} {rep rep2 : Bool} {Q : Unit → Shared → Prop} (hne : a ≠ dd) (lo : (a == sysModules) = false)
    (hd : s.heap.get? dd = some (dictO ents ep)) (ha : s.heap.get? a = some (dictO src ep2)) (al : All2 (ER C.w C.L β T rep) acc ents) (al2 : All2 (ER C.w C.L β T rep2) more src) (nd : ((acc ++ more).map (·.1)).Nodup) (sz : acc.length + more.length ≤ LIM)
    (k : ∀ H', H'.get? dd = some (dictO (ents ++ src) (ep + src.length)) → Heap.SameBut dd s.heap H' → Q () { s with heap := H' }) :
    wpAny (model C.prog C.w) A (mergeMapping dd (.ref a) false) Q E s := by
  have hT : s.TypeIs (.ref a) "dict" := ⟨_, ha, rfl⟩
  unfold mergeMapping
  refine wpAny_bind (wpAny_isInstance hT F.sub_dict_dict ?_)
  rw [if_pos rfl]
  refine wpAny_bind (wpAny_specialOf (name := Str.ofString "__iter__") hT F.slot_dict_iter.lookup ?_)
  refine wpAny_bind (wpAny_pure ?_)
  rw [beq_self_eq_true]
  dsimp only
  rw [lo, if_neg Bool.false_ne_true]
  refine wpAny_bind (wpAny_dictEntries hd rfl ?_)
  have body : wpAny (model C.prog C.w) A (do
      let es ← dictEntries a
      let epoch ← dictEpoch a
      forIn (List.range es.size) PUnit.unit fun i __s => (do
        match (← dictEntries a)[i]? with
        | some e => do
          holding [e.key, e.val] (dictPut dd e.hash e.key e.val)
          if ((← dictEpoch a) != epoch) = true then do
            unsupported "dict.changed-during-merge"
            pure (ForInStep.yield PUnit.unit)
          else pure (ForInStep.yield PUnit.unit)
        | _ => do
          unsupported "dict.changed-during-merge"
          pure (ForInStep.yield PUnit.unit) : Sem (ForInStep PUnit))
      pure ()) Q E s := by
    refine wpAny_bind (wpAny_dictEntries ha rfl ?_)
    refine wpAny_bind (wpAny_dictEpoch ha rfl ?_)
    have hsz : src.toArray.size = src.length := by simp
    rw [hsz, List.range_eq_range']
    refine wpAny_bind (merge_loop hne al2 _ (fun i u => rfl) src.length 0 acc ents ep s _ (by omega) hd ha al (by simpa using nd) (by rw [← al2.length]; exact sz) fun H' x y => wpAny_pure (k H' (by simpa using x) y))
  split
  · refine wpAny_bind (wpAny_dictEntries ha rfl ?_)
    refine wpAny_bind (PySem.MeetsSeq2.wpAny_forIn_array _ (fun l _ s' => s' = s ∧ ∀ e ∈ l, ∃ x t, e.key = .str x t) _ ?_ ?_ _ _ ?_)
    · rintro x rest b s' ⟨rfl, h⟩
      obtain ⟨y, t, e⟩ := h x (.head _)
      rw [e]
      exact wpAny_pure ⟨rfl, fun e he => h e (.tail _ he)⟩
    · rintro b s' ⟨rfl, _⟩
      exact body
    · refine ⟨rfl, fun e he => ?_⟩
      obtain ⟨k, h1, _⟩ := keys_dict al2 e (by simpa using he)
      obtain ⟨t, h2⟩ := Value.isStrOf_shape h1
      exact ⟨_, t, h2⟩
  · exact body
end
end Mine

end

section
open PySem PySem.Calls PyProof.Rows PySem.W
namespace Mine

theorem gather {mn : Option Addr} (f : (Option (Sem Value) × Sem Value) → (Option Addr × List (Sem Value × Sem Value)) → Sem (ForInStep (Option Addr × List (Sem Value × Sem Value))))
    (hf : ∀ (p : Sem Value × Sem Value) (run : List (Sem Value × Sem Value)), run.length + 1 < 17 → f (some p.1, p.2) (mn, run) = pure (.yield (mn, run ++ [p]))) :
    ∀ (items run : List (Sem Value × Sem Value)), run.length + items.length < 17 → forIn (items.map fun p => (some p.1, p.2)) (mn, run) f = pure (mn, run ++ items)
  | [], run, _ => by simp
  | p :: rest, run, h => by
    rw [List.map_cons, List.forIn_cons, hf p run (by simp at h; omega), pure_bind]
    have := gather f hf rest (run ++ [p]) (by simp at h ⊢; omega)
    simpa using this

section
variable {C : Cx} {N : Nm} {sc : Scope} {env : Env} {A₀ : Addr} {A : Around} {d : Nat} {m : M} {h h' : Hp} {v : V} {s : Shared} {β : List Addr} {Q : Value → Shared → Prop} {E : Value → Shared → Prop} {S : Sm}

theorem Gd.alloc' {w : World} {L : Pl} {G : Heap} {T : Nat} {H H' : Heap} (g : Gd w L G β T h H) (hk : ∀ b o, H.get? b = some o → H'.get? b = some o) {o : O} {ob : Obj} (hob : H'.get? H.objs.size = some ob) (ho : OR w L (β ++ [H.objs.size]) T o ob) :
    Gd w L G (β ++ [H.objs.size]) T (h ++ [o]) H' ∧ Ext β H (β ++ [H.objs.size]) H' := by
  have hp : Pre β (β ++ [H.objs.size]) := ⟨_, rfl⟩
  have key := g.alloc (o := .list []) (ob := ⟨.type "list", none, .seq #[] 0, #[]⟩) rfl ⟨_, _, _, _, rfl, trivial, Nat.zero_le _⟩
  refine ⟨⟨by simp [g.len], key.1.nd, ?_, fun b o' e => hk _ _ (g.base b o' e), key.1.new, g.pos, g.g3, key.1.big⟩, hp, fun b o' n e => ⟨hk b o' e, (key.2.keep b o' n e).2⟩⟩
  intro k o' a e1 e2
  rcases Nat.lt_or_ge k h.length with q | q
  · rw [List.getElem?_append_left q] at e1
    rw [List.getElem?_append_left (by rw [g.len]; exact q)] at e2
    obtain ⟨ob', x, y⟩ := g.objs k o' a e1 e2
    exact ⟨ob', hk _ _ x, y.mono hp (Nat.le_refl _)⟩
  · rw [List.getElem?_append_right q] at e1
    rw [List.getElem?_append_right (by rw [g.len]; exact q), g.len] at e2
    have hk : k - h.length = 0 := by
      rcases Nat.eq_zero_or_pos (k - h.length) with z | z
      · exact z
      · rw [List.getElem?_eq_none (by simp; omega)] at e1; cases e1
    rw [hk] at e1 e2
    simp at e1 e2
    subst e1 e2
    exact ⟨ob, hob, ho⟩

theorem new_ref {w : World} {L : Pl} {G : Heap} {T : Nat} {H : Heap} (g : Gd w L G β T h H) : VR L (β ++ [H.objs.size]) T (.ref h.length) (.ref H.objs.size) :=
  ⟨H.objs.size, by rw [← g.len]; simp, rfl⟩

theorem ev_dict0 {ks vs : MEs} {p : Pos} (ok : ME.ok N sc (.dict .no ks vs p) = true) (e : stepE C.X S (.dict .no ks vs p) m h = some (v, h')) (G : Gd C.w C.L C.G β s.toks h s.heap) (pst : Pst C s β h' v Q) :
    wpAny (model C.prog C.w) A (eval ((ME.dict .no ks vs p).back N) env) Q E s := by
  replace ok := (show (_ && _) = true from ok)
  simp only [Bool.and_eq_true, decide_eq_true_eq] at ok
  obtain ⟨⟨⟨⟨⟨⟨_, okc⟩, h1⟩, h2⟩, okl⟩, oknd⟩, _⟩ := ok
  replace h1 := short_of h1
  replace h2 := short_of h2
  obtain ⟨es, e1, e2⟩ := bind_some e
  cases e2
  obtain ⟨el, ek⟩ := pairs_len e1
  have fin : ∀ H' ents T, s.toks ≤ T → H'.get? s.heap.objs.size = some (dictO ents es.length) → All2 (ER C.w C.L [] T true) es ents → (∀ b o, s.heap.get? b = some o → H'.get? b = some o) → Q (.ref s.heap.objs.size) { s with heap := H', toks := T } := by
    intro H' ents T a b c k
    have g1 := (G.toks a).alloc' k b (o := .dict true es.length es) ⟨ents.toArray, rfl, by simpa using c.mono fun _ _ => ER.mono ⟨_, rfl⟩ (Nat.le_refl _), by rw [ek]; exact oknd, by unfold LIM; omega⟩
    exact pst _ _ H' T a g1.2 g1.1 (new_ref (G.toks a))
  show wpAny _ _ (eval (.Dict (ks.backSome N) (vs.back N) p) env) Q E s
  cases ks with
  | nil =>
    cases vs with
    | nil =>
      cases e1
      refine wpAny_Dict_empty (fin _ [] s.toks (Nat.le_refl _) ?_ trivial (get?_push_keep _))
      exact Heap.get?_push_size _ rfl
    | cons _ _ => cases e1
  | cons k ks =>
    rw [arm_eval_Dict, pairTrees_zip e1]
    refine wpAny_bind (wpAny_standAt ?_)
    have hne : pairTrees N env p (.cons k ks) vs ≠ [] := by
      cases vs with
      | nil => cases k <;> first | cases e1 | (rename_i c _; cases c <;> cases e1)
      | cons _ _ => simp [pairTrees]
    rw [dictDisplay_pairs _ hne (Nat.lt_of_le_of_lt pairTrees_len (by omega))]
    exact wpAny_bind (subDict_sound e1 h1 h2 okl oknd G.pos fun H' ents T a b c k => wpAny_pure (fin H' ents T a b c k))

theorem ev_list {es : MEs} {p : Pos} (ih : SEv C S d) (V₀ : EnvOk C N sc env A₀) (hA : AOk A d) (ok : ME.ok N sc (.list es p) = true) (e : stepE C.X S (.list es p) m h = some (v, h')) (G : Gd C.w C.L C.G β s.toks h s.heap) (F : Frm C.L C.G N β s.toks m A₀ s.heap) (pst : Pst C s β h' v Q) :
    wpAny (model C.prog C.w) A (eval ((ME.list es p).back N) env) Q E s := by
  replace ok := (show (_ && _) = true from ok)
  simp only [Bool.and_eq_true, decide_eq_true_eq] at ok
  obtain ⟨⟨vs, h1⟩, e1, e2⟩ := bind_some e
  cases e2
  have hlen : ∀ {es : MEs} {h h' : Hp} {vs : List V}, evs S es m h = some (vs, h') → vs.length = es.len := by
    intro es
    induction es using MEs.rec (motive_1 := fun _ => True) (motive_3 := fun _ => True) with
    | nil => intro h h' vs e; cases e; rfl
    | cons x r _ ih =>
      intro h h' vs e
      obtain ⟨⟨v, h1⟩, e1, e2⟩ := bind_some e
      obtain ⟨⟨vs', h2⟩, e3, e4⟩ := bind_some e2
      cases e4
      rw [List.length_cons, ih e3]; rfl
    | _ => trivial
  have hl := hlen e1
  refine List_ ?_
  rw [trees]
  refine args_sound ih V₀ hA es h h1 vs ok.1 e1 s β _ E G F fun xs β1 H1 T1 t1 x1 g1 r1 => ?_
  have hxl : xs.length = vs.length := r1.length.symm
  refine wpAny_newObj_type ?_ (by show xs.toArray.size ≤ sizeLine; rw [List.size_toArray, sizeLine_eq]; omega)
  have g2 := g1.alloc' (get?_push_keep { cls := .type "list", data := .seq xs.toArray }) (Heap.get?_push_size _ rfl) (o := .list vs) ⟨_, _, _, _, rfl, by simpa using r1.mono fun _ _ => VR.mono ⟨_, rfl⟩ (Nat.le_refl _), by unfold LIM; omega⟩
  exact pst _ _ _ T1 t1 (x1.trans g2.2) g2.1 (new_ref g1)

/-- what a piece of the display's road does where nothing is raised -/
theorem guarded {α : Type} {M : Model} {t : Sem α} {k : Value → Sem Unit} {Q : α → Shared → Prop} (h : wpAny M A t Q (fun _ _ => False) s) : wpAny M A (t.onRaise k) Q E s :=
  wpAny_onRaise (wpAny_mono h (fun _ _ x => x) fun _ _ x => x.elim)

theorem obj_at2 (ok0 : C.Ok) {T : Nat} {H : Heap} (g : Gd C.w C.L C.G β T h H) {v : V} {o : O} (e : obj C.X h v = some o) {x : Value} (r : VR C.L β T v x) :
    ∃ a ob, x = .ref a ∧ H.get? a = some ob ∧ OR C.w C.L β T o ob ∧ ((∀ vs, o ≠ O.list vs) → (a == sysModules) = false) ∧ (a ∈ β ∨ ∃ o, C.G.get? a = some o) := by
  obtain ⟨a, ob, rfl, q, z, lo⟩ := obj_at ok0 g e r
  refine ⟨a, ob, rfl, q, z, lo, ?_⟩
  cases v with
  | ref k => obtain ⟨a', ha, e⟩ := r; cases e; exact .inl (List.mem_of_getElem? ha)
  | ext j =>
    obtain ⟨a', ha, e⟩ := r
    cases e
    obtain ⟨a', ob', ha', q, _⟩ := ok0.ext j o (by assumption)
    rw [ha] at ha'; cases ha'
    exact .inr ⟨_, q⟩
  | _ => cases e

theorem Gd.adopt {w : World} {L : Pl} {G : Heap} {T : Nat} {H H' : Heap} {dd : Addr} (g : Gd w L G β T h H) (hd : dd ∉ β) (hG : G.get? dd = none) (hb : (dd == sysModules) = false) (hk : ∀ b o, b ≠ dd → H.get? b = some o → H'.get? b = some o) {o : O} {ob : Obj}
    (hob : H'.get? dd = some ob) (ho : OR w L (β ++ [dd]) T o ob) : Gd w L G (β ++ [dd]) T (h ++ [o]) H' := by
  have hp : Pre β (β ++ [dd]) := ⟨_, rfl⟩
  refine ⟨by simp [g.len], ?_, ?_, fun b o' e => hk b o' (fun z => by rw [z, hG] at e; cases e) (g.base b o' e), ?_, g.pos, g.g3, ?_⟩
  · rw [List.nodup_append]
    refine ⟨g.nd, by simp, ?_⟩
    intro a ha b hb
    simp at hb
    subst hb
    exact fun e => hd (e ▸ ha)
  · intro k o' a e1 e2
    rcases Nat.lt_or_ge k h.length with q | q
    · rw [List.getElem?_append_left q] at e1
      rw [List.getElem?_append_left (by rw [g.len]; exact q)] at e2
      obtain ⟨ob', x, y⟩ := g.objs k o' a e1 e2
      exact ⟨ob', hk _ _ (fun z => hd (z ▸ List.mem_of_getElem? e2)) x, y.mono hp (Nat.le_refl _)⟩
    · rw [List.getElem?_append_right q] at e1
      rw [List.getElem?_append_right (by rw [g.len]; exact q), g.len] at e2
      have hk : k - h.length = 0 := by
        rcases Nat.eq_zero_or_pos (k - h.length) with z | z
        · exact z
        · rw [List.getElem?_eq_none (by simp; omega)] at e1; cases e1
      rw [hk] at e1 e2
      simp at e1 e2
      subst e1 e2
      exact ⟨ob, hob, ho⟩
  · intro a ha
    rcases List.mem_append.mp ha with q | q
    · exact g.new a q
    · simp at q; subst q; exact hG
  · intro a ha
    rcases List.mem_append.mp ha with q | q
    · exact g.big a q
    · simp at q; subst q; exact hb

theorem fresh_big {w : World} {L : Pl} {G : Heap} {T : Nat} {H : Heap} (g : Gd w L G β T h H) : (H.objs.size == sysModules) = false := by
  obtain ⟨o3, h3⟩ := g.g3
  have := Heap.lt_size (g.base _ _ h3)
  exact beq_eq_false_iff_ne.mpr (Nat.ne_of_gt (Nat.lt_trans (by decide) this))

theorem ev_spread {x : ME} {ks vs : MEs} {p : Pos} (ok0 : C.Ok) (ih : SEv C S d) (V₀ : EnvOk C N sc env A₀) (hA : AOk A d) (ok : ME.ok N sc (.dict (.yes x) ks vs p) = true) (e : stepE C.X S (.dict (.yes x) ks vs p) m h = some (v, h'))
    (G : Gd C.w C.L C.G β s.toks h s.heap) (F : Frm C.L C.G N β s.toks m A₀ s.heap) (pst : Pst C s β h' v Q) :
    wpAny (model C.prog C.w) A (eval ((ME.dict (.yes x) ks vs p).back N) env) Q E s := by
  replace ok := (show (_ && _) = true from ok)
  simp only [Bool.and_eq_true, decide_eq_true_eq] at ok
  obtain ⟨⟨⟨⟨⟨⟨okx, okc⟩, h1⟩, h2⟩, okl⟩, oknd⟩, okn⟩ := ok
  replace h1 := short_of h1
  replace h2 := short_of h2
  obtain ⟨⟨a, hh⟩, e1, e2⟩ := bind_some e
  simp only at e2
  split at e2
  · rename_i rep ep es ho
    obtain ⟨more, e3, e4⟩ := bind_some e2
    split at e4
    · rename_i hcond
      cases e4
      obtain ⟨el, ek⟩ := pairs_len e3
      show wpAny _ _ (eval (.Dict (none :: ks.backSome N) (x.back N :: vs.back N) p) env) Q E s
      rw [arm_eval_Dict]
      refine wpAny_bind (wpAny_standAt ?_)
      have hz : (evalEachOpt (none :: ks.backSome N) env).zip ((evalEach (x.back N :: vs.back N) env).map fun v => do let x ← v; standAt p; pure x) =
          (none, do let x ← eval (x.back N) env; standAt p; pure x) :: (pairTrees N env p ks vs).map fun p => (some p.1, p.2) := by
        rw [← pairTrees_zip e3]; rfl
      rw [hz]
      unfold dictDisplay
      dsimp only
      rw [List.forIn_cons]
      refine wpAny_bind (wpAny_bind ?_)
      dsimp only
      refine wpAny_bind ?_
      rw [if_pos (by rfl)]
      refine wpAny_pure ?_
      dsimp only
      refine wpAny_bind (wpAny_alloc ?_)
      have hk0 := get?_push_keep (H := s.heap) { cls := .type "dict", data := .dict #[] }
      refine wpAny_bind (wpAny_holding (wpAny_bind ?_))
      refine ih x N sc env A₀ A m h hh a okx V₀ hA e1 { s with heap := s.heap.push { cls := .type "dict", data := .dict #[] } } β _ E (G.grow hk0) (F.ext (Ext.grow hk0) (Nat.le_refl _)) fun y β1 H1 T1 t1 x1 g1 r1 => ?_
      refine wpAny_bind (wpAny_standAt (wpAny_pure ?_))
      obtain ⟨a', ob, rfl, q, z, lo0, hin⟩ := obj_at2 ok0 g1 ho r1
      have lo := lo0 (fun vs e => by cases e)
      obtain ⟨ents, rfl, al, nd, le⟩ := z
      have hd1 := x1.keep s.heap.objs.size _ G.fresh.1 (Heap.get?_push_size _ rfl)
      have hne : a' ≠ s.heap.objs.size := by
        rintro rfl
        rcases hin with hin | ⟨o, ho⟩
        · exact hd1.2 hin
        · rw [G.fresh.2] at ho; cases ho
      have hnd : ((es ++ more).map (·.1)).Nodup := by
        rw [List.map_append, List.nodup_append]
        refine ⟨nd, by rw [ek]; exact oknd, ?_⟩
        intro k hk k' hk' hkk
        subst hkk
        obtain ⟨p', hp', rfl⟩ := List.mem_map.mp hk'
        have := List.all_eq_true.mp hcond.2 p' hp'
        unfold keyIn at this
        rw [Option.isNone_map, Option.isNone_iff_eq_none, List.find?_eq_none] at this
        obtain ⟨e', he', hee⟩ := List.mem_map.mp hk
        exact this e' he' (by simp [hee])
      have heq : ents.toList.toArray = ents := Array.toArray_toList ..
      have q' : H1.get? a' = some (dictO ents.toList ep) := by simp only [dictO, heq]; exact q
      refine wpAny_bind (guarded (wpAny_tryCatch (guarded (wpAny_holding (merge_new (s := { s with heap := H1, toks := T1 }) (acc := []) (ents := []) (ep := 0) (ep2 := ep) (src := ents.toList) (more := es) (T := T1) (rep := true) (rep2 := rep) (β := β1) hne lo hd1.1 q' trivial al (by simpa using nd) (by simpa using le) fun H2 g2 s2 => ?_)))))
      refine wpAny_pure ?_
      dsimp only
      rw [gather _ (fun p run h => by
        have hne : ((run ++ [(p.1, p.2)]).length == 17) = false := by simp; omega
        simp only [hne, Bool.false_eq_true, if_false]) (pairTrees N env p ks vs) [] (by have := pairTrees_len (N := N) (env := env) (pos := p) (ks := ks) (vs := vs); simp; omega)]
      refine wpAny_bind (wpAny_pure ?_)
      refine wpAny_pure ?_
      dsimp only
      have hpe : ([] ++ pairTrees N env p ks vs).isEmpty = false := by
        cases ks with
        | nil => simp [MEs.len] at okn
        | cons k ks =>
          cases vs with
          | nil => cases k <;> first | cases e3 | (rename_i c _; cases c <;> cases e3)
          | cons _ _ => rfl
      rw [hpe, if_neg Bool.false_ne_true]
      have hlen : ents.toList.length = es.length := al.length.symm
      have g2' : H2.get? s.heap.objs.size = some (dictO ents.toList es.length) := by simpa [hlen] using g2
      have g20 : 0 < T1 := g1.pos
      refine wpAny_bind (wpAny_bind (wpAny_holding (subDict_sound (s := { s with heap := H2, toks := T1 }) e3 h1 h2 okl oknd g20 fun H3 ents2 T2 t2 o2 al2 k2 => ?_)))
      have hne2 : H2.objs.size ≠ s.heap.objs.size := Nat.ne_of_gt (Heap.lt_size g2')
      have lo2 : (H2.objs.size == sysModules) = false := by
        obtain ⟨o3, h3⟩ := g1.g3
        have h3' := g1.base _ _ h3
        have : 3 < H2.objs.size := by
          by_cases z : (3 : Nat) = s.heap.objs.size
          · have := fresh_big G
            exact absurd (Heap.lt_size (G.base _ _ h3)) (by rw [← z]; exact Nat.lt_irrefl _)
          · exact Heap.lt_size ((s2.2 3 z).trans h3')
        exact beq_eq_false_iff_ne.mpr (Nat.ne_of_gt (Nat.lt_trans (by decide) this))
      have alE : All2 (ER C.w C.L β1 T2 rep) es ents.toList := al.mono fun _ _ => ER.mono (Pre.refl _) t2
      have alM : All2 (ER C.w C.L β1 T2 true) more ents2 := al2.mono fun _ _ => ER.mono ⟨β1, rfl⟩ (Nat.le_refl _)
      refine wpAny_bind (guarded (wpAny_holding (merge_new (s := { s with heap := H3, toks := T2 }) hne2 lo2 (k2 _ _ g2') o2 alE alM hnd (by unfold LIM; omega) fun H4 g4 s4 => wpAny_pure (wpAny_pure ?_))))
      have hl2 : ents2.length = more.length := alM.length.symm
      have keep : ∀ b o, b ≠ s.heap.objs.size → H1.get? b = some o → H4.get? b = some o := fun b o n e => (s4.2 b n).trans (k2 b o ((s2.2 b n).trans e))
      have gg := (g1.toks t2).adopt hd1.2 G.fresh.2 (fresh_big G) keep (o := .dict rep (es.length + more.length) (es ++ more)) (ob := dictO (ents.toList ++ ents2) (es.length + more.length)) (by rw [g4, hl2])
        ⟨_, rfl, by
          have a1 : All2 (ER C.w C.L (β1 ++ [s.heap.objs.size]) T2 rep) es ents.toList := alE.mono fun _ _ => ER.mono ⟨_, rfl⟩ (Nat.le_refl _)
          have a2 : All2 (ER C.w C.L (β1 ++ [s.heap.objs.size]) T2 rep) more ents2 := alM.mono fun _ _ => ER_weak ⟨_, rfl⟩ (Nat.le_refl _) fun _ => rfl
          simpa using All2.append a1 a2, hnd, by rw [List.length_append]; unfold LIM; omega⟩
      refine pst _ (β1 ++ [s.heap.objs.size]) H4 T2 (Nat.le_trans t1 t2) ⟨x1.pre.trans ⟨_, rfl⟩, fun b o n e => ?_⟩ gg ⟨s.heap.objs.size, by rw [← g1.len]; simp, rfl⟩
      have nb : b ≠ s.heap.objs.size := Nat.ne_of_lt (Heap.lt_size e)
      have kb := x1.keep b o n (Heap.get?_push_of_some _ e)
      refine ⟨keep b o nb kb.1, fun hm => ?_⟩
      rcases List.mem_append.mp hm with q | q
      · exact kb.2 q
      · simp at q; exact nb q
    · cases e4
  · cases e2
end
end Mine

end

section
open PySem PySem.Calls PyProof.Rows PySem.W
namespace Mine

noncomputable def STr (C : Cx) (S : Sm) (d : Nat) : Prop :=
  ∀ (e : ME) (N : Nm) (sc : Scope) (env : Env) (A₀ : Addr) (A : Around) (m : M) (h h' : Hp) (v : V) (t : Bool), e.ok N sc = true → EnvOk C N sc env A₀ → AOk A d → S.ev e m h = some (v, h') → truth C.X h' v = some t →
  ∀ (s : Shared) (β : List Addr) (Q : Bool → Shared → Prop) (E : Value → Shared → Prop), Gd C.w C.L C.G β s.toks h s.heap → Frm C.L C.G N β s.toks m A₀ s.heap →
  (∀ β' H' T', s.toks ≤ T' → Ext β s.heap β' H' → Gd C.w C.L C.G β' T' h' H' → Q t { s with heap := H', toks := T' }) →
  wpAny (model C.prog C.w) A (isTrue (e.back N) env (eval (e.back N) env)) Q E s

section
variable {C : Cx} {N : Nm} {sc : Scope} {env : Env} {A₀ : Addr} {A : Around} {d : Nat} {m : M} {h h' : Hp} {v : V} {s : Shared} {β : List Addr} {Q : Value → Shared → Prop} {E : Value → Shared → Prop} {S : Sm}

theorem part_sound {lo : MO} {l : Option Int} {Q : Value → Shared → Prop} (ih : SEv C S d) (V₀ : EnvOk C N sc env A₀) (hA : AOk A d) (ok : lo.ok N sc = true) (e : evO S lo m h = some (l, h')) (G : Gd C.w C.L C.G β s.toks h s.heap) (Fm : Frm C.L C.G N β s.toks m A₀ s.heap)
    (k : ∀ (p : Option (Int × Tok)) β' H' T', p.map (·.1) = l → s.toks ≤ T' → Ext β s.heap β' H' → Gd C.w C.L C.G β' T' h' H' → Q (partValue p) { s with heap := H', toks := T' }) :
    wpAny (model C.prog C.w) A (evalPart (lo.back N) env) Q E s := by
  cases lo with
  | no =>
    cases e
    exact evalPart_none_step (k none β s.heap s.toks rfl (Nat.le_refl _) (Ext.refl _ _) G)
  | yes e' =>
    obtain ⟨⟨v, h1⟩, e1, e2⟩ := bind_some e
    refine evalPart_some_step (ih e' N sc env A₀ A m h h1 v ok V₀ hA e1 s β _ E G Fm fun x β1 H1 T1 t1 x1 g1 r1 => ?_)
    simp only at e2
    split at e2
    · cases e2
      obtain ⟨t, rfl⟩ := r1
      exact k (some (_, t)) β1 H1 T1 rfl t1 x1 g1
    · cases e2

theorem ev_slice {x : ME} {lo hi : MO} {sp p : Pos} (ih : SEv C S d) (V₀ : EnvOk C N sc env A₀) (hA : AOk A d) (ok : ME.ok N sc (.slice x lo hi sp p) = true) (e : stepE C.X S (.slice x lo hi sp p) m h = some (v, h')) (G : Gd C.w C.L C.G β s.toks h s.heap) (Fm : Frm C.L C.G N β s.toks m A₀ s.heap) (pst : Pst C s β h' v Q) :
    wpAny (model C.prog C.w) A (eval ((ME.slice x lo hi sp p).back N) env) Q E s := by
  replace ok := (show (_ && _) = true from ok)
  simp only [Bool.and_eq_true] at ok
  obtain ⟨⟨okx, okl⟩, okh⟩ := ok
  obtain ⟨⟨a, h1⟩, e1, e2⟩ := bind_some e
  obtain ⟨⟨l, h2⟩, e3, e4⟩ := bind_some e2
  obtain ⟨⟨u, h3⟩, e5, e6⟩ := bind_some e4
  simp only at e6
  split at e6
  · rename_i y
    cases e6
    refine Subscript_ ?_
    refine ih x N sc env A₀ A m h h1 _ okx V₀ hA e1 s β _ E G Fm fun ya β1 H1 T1 t1 x1 g1 r1 => ?_
    have F1 := Fm.ext x1 t1
    refine wpAny_Slice ?_
    refine part_sound (s := { s with heap := H1, toks := T1 }) ih V₀ hA okl e3 g1 F1 fun pl β2 H2 T2 hpl t2 x2 g2 => ?_
    have F2 := F1.ext x2 t2
    refine part_sound (s := { s with heap := H2, toks := T2 }) ih V₀ hA okh e5 g2 F2 fun pu β3 H3 T3 hpu t3 x3 g3 => ?_
    refine evalPart_none_step ?_
    have r3 := r1.mono (x2.pre.trans x3.pre) (Nat.le_trans t2 t3)
    obtain ⟨t, rfl, q0, q1, ql⟩ := r3
    have hk := get?_push_keep (H := H3) { cls := .type "slice", data := .fields #[partValue pl, partValue pu, .none] }
    refine tail_any (ops := [.ref H3.objs.size, .str ⟨y.toArray⟩ t]) (typeIs_str _ _ _) F.slot_str_getitem.lookup ?_ rfl
    refine wpAny_getItem_str_slice (l := pl) (u := pu) (st := none) ⟨_, Heap.get?_push_size _ rfl, rfl, rfl⟩ rfl ?_
    have hyl : (⟨y.toArray⟩ : Str).length = y.length := by simp [Str.length]
    have pk : slicePicked ⟨y.toArray⟩ pl pu none = Builtin.Str.strSliceIndices l u 1 y.length := by
      unfold slicePicked
      rw [hpl, hpu, hyl]; rfl
    have tx := slc_picked y l u
    have P1 : Pst C { s with heap := H3.push { cls := .type "slice", data := .fields #[partValue pl, partValue pu, .none] }, toks := T3 } β3 h' (.str (slc y l u)) Q :=
      pst.step (Nat.le_trans t1 (Nat.le_trans t2 t3)) ((x1.trans (x2.trans x3)).trans (Ext.grow hk))
    have le := slc_len y l u
    refine made_str (s := { s with heap := H3.push { cls := .type "slice", data := .fields #[partValue pl, partValue pu, .none] }, toks := T3 }) (g3.grow hk) P1 (fun hc => ?_) (fun hc => ?_)
    · rw [pk, hyl] at hc
      have : (Builtin.Str.strSliceIndices l u 1 y.length).length = y.length := by simpa using hc
      rw [slc_all y l u this]
      exact ⟨t, rfl, q0, q1, ql⟩
    · refine ⟨?_, by omega⟩
      rw [pk]
      exact congrArg (fun z : List Nat => (⟨z.toArray⟩ : Str)) tx
  · cases e6

theorem base_plain {x : ME} {n : Str} (hc : x.notCall = true) : attributeBase (x.back N) n env (eval (x.back N) env) = eval (x.back N) env := by
  cases x <;> first | rfl | (rename_i sp ks vs p; cases sp <;> rfl) | (exact absurd hc Bool.false_ne_true)

theorem ev_replace {x : ME} {ap p : Pos} {as : MEs} (ok0 : C.Ok) (ih : SEv C S d) (V₀ : EnvOk C N sc env A₀) (hA : AOk A d) (hev : ∀ (c : C0) (p : Pos) (m : M) (h : Hp) r, S.ev (.cst c p) m h = some r → r = (c.val, h)) (ok : ME.ok N sc (.meth .replace x ap as p) = true) (e : stepE C.X S (.meth .replace x ap as p) m h = some (v, h')) (G : Gd C.w C.L C.G β s.toks h s.heap) (Fm : Frm C.L C.G N β s.toks m A₀ s.heap) (pst : Pst C s β h' v Q) :
    wpAny (model C.prog C.w) A (eval ((ME.meth .replace x ap as p).back N) env) Q E s := by
  replace ok := (show (_ && _) = true from ok)
  simp only [Bool.and_eq_true, decide_eq_true_eq] at ok
  obtain ⟨⟨⟨⟨⟨okx, oka⟩, okp⟩, okr⟩, okl⟩, okc⟩ := ok
  obtain ⟨⟨a, h1⟩, e1, e2⟩ := bind_some e
  obtain ⟨⟨vs, h2⟩, e3, e4⟩ := bind_some e2
  unfold repArgs at okr
  split at okr
  · rename_i y py z pz
    obtain ⟨⟨v1, h3⟩, e5, e6⟩ := bind_some e3
    obtain ⟨⟨vs', h4⟩, e7, e8⟩ := bind_some e6
    obtain ⟨⟨v2, h5⟩, e9, e10⟩ := bind_some e7
    cases hev _ _ _ _ _ e5
    cases hev _ _ _ _ _ e9
    cases e10
    cases e8
    have hsy : (lit y).length ≤ LIM ∧ (lit z).length ≤ LIM := by
      simp only [MEs.ok, ME.ok, C0.short, Bool.and_eq_true, decide_eq_true_eq] at oka
      unfold LIM; omega
    refine wpAny_Call_method (T := "str") (id := "str.replace") (base_plain okc) (by rw [trees]; simp [MEs.back, keywordEach, backToKw]) okp F.plainAttrs_str F.slot_str_replace F.type_str_replace ?_
    refine ih x N sc env A₀ A m h h1 a okx V₀ hA e1 s β _ E G Fm fun ya β1 H1 T1 t1 x1 g1 r1 => ?_
    cases a with
    | str l =>
      simp only [meth, C0.val] at e4
      split at e4
      · rename_i hcond
        cases e4
        have hT : Shared.TypeIs { s with heap := H1, toks := T1 } ya "str" := by obtain ⟨t, rfl, _⟩ := r1; exact typeIs_str _ _ _
        refine ⟨hT, fun b hb => (by obtain ⟨t, rfl, _⟩ := r1; cases hb), ?_⟩
        refine withB ?_
        refine spliced_cons (Constant_str (spliced_cons (Constant_str (spliced_nil ?_))))
        have r2 : VR C.L β1 (T1 + 1 + 1) (.str l) ya := r1.mono (Pre.refl _) (Nat.le_trans (Nat.le_succ _) (Nat.le_succ _))
        refine rep_sound (s := { s with heap := H1, toks := T1 + 1 + 1 }) ok0 (g1.toks (Nat.le_trans (Nat.le_succ _) (Nat.le_succ _))) r2 (u := T1) (v' := T1 + 1) g1.pos (Nat.succ_pos _) (Nat.ne_of_lt (Nat.lt_succ_self _)) hcond.1 hcond.2 (pst.step (Nat.le_trans t1 (Nat.le_trans (Nat.le_succ _) (Nat.le_succ _))) x1)
      · cases e4
    | _ => cases e4
  · cases okr
end
end Mine

end

section
open PySem PySem.Calls PyProof.Rows PySem.W
namespace Mine
section
variable {C : Cx} {N : Nm} {sc : Scope} {env : Env} {A₀ : Addr} {A : Around} {d : Nat} {m : M} {h h' : Hp} {v : V} {s : Shared} {β : List Addr} {Q : Value → Shared → Prop} {E : Value → Shared → Prop} {S : Sm}

theorem bname {n : Bi} {p : Pos} {Q : Value → Shared → Prop} (ok0 : C.Ok) (V₀ : EnvOk C N sc env A₀) (ok : (sc.names.lookup (Str.ofString n.name) == some .globalImplicit) = true) (G : Gd C.w C.L C.G β s.toks h s.heap) (k : Q n.value s) :
    wpAny (model C.prog C.w) A (eval (.Name (Str.ofString n.name) p) env) Q E s := by
  obtain ⟨b1, b2⟩ := ok0.bi n
  refine Name_function_global (by rw [V₀.scp]; exact V₀.kind) (by unfold Env.kindOf; rw [V₀.scp]; exact beq_iff_eq.mp ok)
    (loadGlobal_builtin (mg := C.mg) (mb := C.mb) (by rw [V₀.glo]; exact ok0.g.keeps G.base) b1 (by rw [V₀.blt]; exact ok0.b.keeps G.base) b2 k) (by cases n <;> decide +kernel)

theorem bcall_sound (ok0 : C.Ok) (hA : A.handled = none) {n : Bi} {vs : List V} {xs : List Value} (G : Gd C.w C.L C.G β s.toks h s.heap) (e : bcall C.X n vs h = some (v, h')) (r : All2 (VR C.L β s.toks) vs xs) (pst : Pst C s β h' v Q) :
    ∃ id, n.value = .builtin id ∧ wpAny (model C.prog C.w) A (call (.builtin id) xs) Q E s := by
  unfold bcall at e
  split at e
  · rename_i l
    cases e
    obtain ⟨x, rfl⟩ : ∃ x, xs = [x] := by
      match xs, r with
      | [x], _ => exact ⟨x, rfl⟩
    obtain ⟨t, rfl, t0, t1, tl⟩ := r.1
    have hl : (⟨l.toArray⟩ : Str).length = l.length := by simp [Str.length]
    refine ⟨"len", rfl, PyProof.Rows.len_str (by rw [hl]; unfold LIM at tl; omega) ?_⟩
    rw [hl]
    exact pst.same G (Nat.le_trans (Nat.le_succ _) (Nat.le_succ _)) ⟨_, rfl⟩
  · rename_i y hy
    obtain ⟨o, e1, e2⟩ := bind_some e
    obtain ⟨x, rfl⟩ : ∃ x, xs = [x] := by
      match xs, r with
      | [x], _ => exact ⟨x, rfl⟩
    obtain ⟨a, ob, rfl, q, z, lo⟩ := obj_at ok0 G e1 r.1
    split at e2
    · cases e2
      obtain ⟨items, hl, al, le⟩ := OR.isList q z
      have hs : items.size = _ := (Array.length_toList (xs := items)).symm.trans al.length.symm
      refine ⟨"len", rfl, PyProof.Rows.len_list hl (by rw [hs]; unfold LIM at le; omega) ?_⟩
      rw [hs]
      exact pst.same G (Nat.le_trans (Nat.le_succ _) (Nat.le_succ _)) ⟨_, rfl⟩
    · cases e2
    · cases e2
  · rename_i i
    cases e
    obtain ⟨x, rfl⟩ : ∃ x, xs = [x] := by
      match xs, r with
      | [x], _ => exact ⟨x, rfl⟩
    obtain ⟨t, rfl⟩ := r.1
    refine ⟨"abs", rfl, with_toks (call_abs_int fun u tk ht => ?_)⟩
    have : (if i < 0 then -i else i) = (i.natAbs : Int) := by split <;> omega
    rw [this]
    exact pst.same G ht ⟨_, rfl⟩
  · rename_i i j
    cases e
    obtain ⟨x, y, rfl⟩ : ∃ x y, xs = [x, y] := by
      match xs, r with
      | [x, y], _ => exact ⟨x, y, rfl⟩
    obtain ⟨t, rfl⟩ := r.1
    obtain ⟨u, rfl⟩ := r.2.1
    refine ⟨"min", rfl, with_toks (Flt.min_two_num hA (.int _ _) (.int _ _) fun H' tk hk ht => ?_)⟩
    refine pst _ β H' tk ht (Ext.grow hk) ((G.toks ht).grow hk) ?_
    show ∃ t, _ = Value.int (min i j) t
    unfold Flt.ltV
    by_cases hij : j < i
    · exact ⟨u, by simp [hij]; omega⟩
    · exact ⟨t, by simp [hij]; omega⟩
  · cases e

theorem ev_bcall {n : Bi} {np p : Pos} {as : MEs} (ok0 : C.Ok) (ih : SEv C S d) (V₀ : EnvOk C N sc env A₀) (hA : AOk A d) (ok : ME.ok N sc (.bcall n np as p) = true) (e : stepE C.X S (.bcall n np as p) m h = some (v, h')) (G : Gd C.w C.L C.G β s.toks h s.heap) (Fm : Frm C.L C.G N β s.toks m A₀ s.heap) (pst : Pst C s β h' v Q) :
    wpAny (model C.prog C.w) A (eval ((ME.bcall n np as p).back N) env) Q E s := by
  replace ok := (show (_ && _) = true from ok)
  simp only [Bool.and_eq_true] at ok
  obtain ⟨⟨vs, h1⟩, e1, e2⟩ := bind_some e
  show wpAny _ _ (eval (.Call (.Name (Str.ofString n.name) np) (as.back N) [] p) env) Q E s
  refine Call_ (bname ok0 V₀ ok.1 G ?_)
  obtain ⟨id, hid⟩ : ∃ id, n.value = .builtin id := by
    cases n <;> first | exact ⟨_, rfl⟩ | (simp [bcall] at e2)
  rw [hid]
  refine withB (args_sound ih V₀ hA as h h1 vs ok.2 e1 s β _ E G Fm fun xs β1 H1 T1 t1 x1 g1 r1 => ?_)
  obtain ⟨id', hid', hw⟩ := bcall_sound (s := { s with heap := H1, toks := T1 }) (A := A) (E := E) ok0 hA.hd g1 e2 r1 (pst.step t1 x1)
  rw [hid] at hid'
  cases hid'
  exact hw

theorem ev_call {f : ME} {p : Pos} {as : MEs} (ok0 : C.Ok) (ih : SEv C S d) (ic : SCl C S d) (V₀ : EnvOk C N sc env A₀) (hA : AOk A d) (ok : ME.ok N sc (.call f as p) = true) (e : stepE C.X S (.call f as p) m h = some (v, h')) (G : Gd C.w C.L C.G β s.toks h s.heap) (Fm : Frm C.L C.G N β s.toks m A₀ s.heap) (pst : Pst C s β h' v Q) :
    wpAny (model C.prog C.w) A (eval ((ME.call f as p).back N) env) Q E s := by
  replace ok := (show (_ && _) = true from ok)
  simp only [Bool.and_eq_true] at ok
  obtain ⟨⟨okf, oka⟩, okn⟩ := ok
  obtain ⟨⟨fv, h1⟩, e1, e2⟩ := bind_some e
  obtain ⟨⟨vs, h2⟩, e3, e4⟩ := bind_some e2
  simp only at e4
  split at e4
  · rename_i g
    have he : eval (.Call (f.back N) (as.back N) [] p) env = (do callWith p (← eval (f.back N) env) [] (backTo p (starEach (as.back N) env)) (backToKw p (keywordEach [] env))) := by
      cases f <;> first | rfl | (exact absurd okn Bool.false_ne_true)
    show wpAny _ _ (eval (.Call (f.back N) (as.back N) [] p) env) Q E s
    refine Call_ ?_ he
    refine ih f N sc env A₀ A m h h1 _ okf V₀ hA e1 s β _ E G Fm fun y β1 H1 T1 t1 x1 g1 r1 => ?_
    obtain ⟨a, ha, rfl⟩ := r1
    obtain ⟨_, o, fd, ho, hd⟩ := ok0.fn g a ha
    have args := fun Q E k => args_sound ih V₀ hA as h1 h2 vs oka e3 { s with heap := H1, toks := T1 } β1 Q E g1 (Fm.ext x1 t1) k
    have k : PstL C { s with heap := H1, toks := T1 } β1 h2 vs (fun xs s₁ => (s₁.heap.get? a = some o ∧ o.data = .func fd) ∧ wpAny (model C.prog C.w) A (call (.ref a) xs) Q E s₁) := by
      intro xs β2 H2 T2 t2 x2 g2 r2
      refine ⟨⟨g2.base _ _ ho, hd⟩, wpAny_call ?_⟩
      refine ic g vs h2 h' v A hA e4 { s with heap := H2, toks := T2 } β2 a xs _ ha r2 g2 fun x β3 H3 T3 t3 x3 g3 r3 => ?_
      exact pst x β3 H3 T3 (Nat.le_trans t1 (Nat.le_trans t2 t3)) (x1.trans (x2.trans x3)) g3 r3
    rw [trees]
    refine callWith_function (o := o) (fd := fd) ?_
    cases as with
    | nil =>
      refine PySem.evalArgs_none ?_
      cases e3
      exact k [] β1 H1 T1 (Nat.le_refl _) (Ext.refl _ _) g1 trivial
    | cons x r => exact evalArgs_plain (args _ _ k)
  · cases e4
end
end Mine

end

section
open PySem PySem.Calls PyProof.Rows PySem.W
namespace Mine
section
variable {C : Cx} {N : Nm} {sc : Scope} {env : Env} {A₀ : Addr} {A : Around} {d : Nat} {m : M} {h h' : Hp} {v : V} {s : Shared} {β : List Addr} {Q : Value → Shared → Prop} {E : Value → Shared → Prop} {S : Sm}

theorem noMarks {op : CmpOp} : ∀ r : ME, behindInMarks op (r.back N) = false := by
  intro r
  cases r <;> first | rfl | (rename_i sp ks vs p; cases sp <;> rfl)

theorem stepE_sound (ok0 : C.Ok) (ih : SEv C S d) (it : STr C S d) (ic : SCl C S d) (hev : ∀ (c : C0) (p : Pos) (m : M) (h : Hp) r, S.ev (.cst c p) m h = some r → r = (c.val, h))
    (e : ME) (ok : e.ok N sc = true) (V₀ : EnvOk C N sc env A₀) (hA : AOk A d) (hs : stepE C.X S e m h = some (v, h')) (G : Gd C.w C.L C.G β s.toks h s.heap) (Fm : Frm C.L C.G N β s.toks m A₀ s.heap) (pst : Pst C s β h' v Q) :
    wpAny (model C.prog C.w) A (eval (e.back N) env) Q E s := by
  cases e with
  | loc i p => exact ev_loc V₀ ok hs G Fm pst
  | glob i p => exact ev_glob ok0 V₀ ok hs G pst
  | cst c p => exact ev_cst ok hs G pst
  | bin op l r p =>
    replace ok := (show (_ && _) = true from ok)
    simp only [Bool.and_eq_true] at ok
    obtain ⟨⟨a, h1⟩, e1, e2⟩ := bind_some hs
    obtain ⟨⟨b, h2⟩, e3, e4⟩ := bind_some e2
    obtain ⟨v', e5, e6⟩ := map_some e4
    cases e6
    refine wpAny_BinOp ?_
    refine ih l N sc env A₀ A m h h1 a ok.1 V₀ hA e1 s β _ E G Fm fun x β1 H1 T1 t1 x1 g1 r1 => ?_
    refine ih r N sc env A₀ A m h1 _ b ok.2 V₀ hA e3 { s with heap := H1, toks := T1 } β1 _ E g1 (Fm.ext x1 t1) fun y β2 H2 T2 t2 x2 g2 r2 => ?_
    have P2 := (pst.step t1 x1).step t2 x2
    refine binop_sound (s := { s with heap := H2, toks := T2 }) hA.hd g2 e5 (r1.mono x2.pre t2) r2 (fun f z h1 h2 h3 u t => ?_) P2
    subst h1 h2 h3
    exact pct_sound (s := { s with heap := H2, toks := T2 }) g2 e5 P2
  | cmp op l r p =>
    replace ok := (show (_ && _) = true from ok)
    simp only [Bool.and_eq_true] at ok
    obtain ⟨⟨a, h1⟩, e1, e2⟩ := bind_some hs
    obtain ⟨⟨b, h2⟩, e3, e4⟩ := bind_some e2
    obtain ⟨c, e5, e6⟩ := map_some e4
    cases e6
    refine wpAny_Compare1 ?_ (noMarks r)
    refine ih l N sc env A₀ A m h h1 a ok.1 V₀ hA e1 s β _ E G Fm fun x β1 H1 T1 t1 x1 g1 r1 => ?_
    refine ih r N sc env A₀ A m h1 _ b ok.2 V₀ hA e3 { s with heap := H1, toks := T1 } β1 _ E g1 (Fm.ext x1 t1) fun y β2 H2 T2 t2 x2 g2 r2 => ?_
    have P2 := (pst.step t1 x1).step t2 x2
    exact cmp_sound (s := { s with heap := H2, toks := T2 }) ok0 g2 e5 (r1.mono x2.pre t2) r2 fun T t => P2.same g2 t rfl
  | and2 l r p =>
    replace ok := (show (_ && _) = true from ok)
    simp only [Bool.and_eq_true] at ok
    obtain ⟨⟨a, h1⟩, e1, e2⟩ := bind_some hs
    obtain ⟨t, e3, e4⟩ := bind_some e2
    refine BoolOp_and ?_
    refine ih l N sc env A₀ A m h h1 a ok.1 V₀ hA e1 s β _ E G Fm fun x β1 H1 T1 t1 x1 g1 r1 => ?_
    refine truth_sound (s := { s with heap := H1, toks := T1 }) ok0 g1 r1 e3 fun T2 t2 => ?_
    cases t with
    | true =>
      refine BoolOp_one (ih r N sc env A₀ A m h1 h' v ok.2 V₀ hA e4 { s with heap := H1, toks := T2 } β1 _ E (g1.toks t2) (Fm.ext x1 (Nat.le_trans t1 t2)) (pst.step (Nat.le_trans t1 t2) x1))
    | false => cases e4; exact pst x β1 H1 T2 (Nat.le_trans t1 t2) x1 (g1.toks t2) (r1.mono (Pre.refl _) t2)
  | or2 l r p =>
    replace ok := (show (_ && _) = true from ok)
    simp only [Bool.and_eq_true] at ok
    obtain ⟨⟨a, h1⟩, e1, e2⟩ := bind_some hs
    obtain ⟨t, e3, e4⟩ := bind_some e2
    refine BoolOp_or ?_
    refine ih l N sc env A₀ A m h h1 a ok.1 V₀ hA e1 s β _ E G Fm fun x β1 H1 T1 t1 x1 g1 r1 => ?_
    refine truth_sound (s := { s with heap := H1, toks := T1 }) ok0 g1 r1 e3 fun T2 t2 => ?_
    cases t with
    | false =>
      refine BoolOp_one (ih r N sc env A₀ A m h1 h' v ok.2 V₀ hA e4 { s with heap := H1, toks := T2 } β1 _ E (g1.toks t2) (Fm.ext x1 (Nat.le_trans t1 t2)) (pst.step (Nat.le_trans t1 t2) x1))
    | true => cases e4; exact pst x β1 H1 T2 (Nat.le_trans t1 t2) x1 (g1.toks t2) (r1.mono (Pre.refl _) t2)
  | and3 l c r p =>
    replace ok := (show (_ && _) = true from ok)
    simp only [Bool.and_eq_true] at ok
    obtain ⟨⟨a, h1⟩, e1, e2⟩ := bind_some hs
    obtain ⟨t, e3, e4⟩ := bind_some e2
    refine BoolOp_and ?_
    refine ih l N sc env A₀ A m h h1 a ok.1.1 V₀ hA e1 s β _ E G Fm fun x β1 H1 T1 t1 x1 g1 r1 => ?_
    refine truth_sound (s := { s with heap := H1, toks := T1 }) ok0 g1 r1 e3 fun T2 t2 => ?_
    cases t with
    | true =>
      obtain ⟨⟨b, h2⟩, e5, e6⟩ := bind_some e4
      obtain ⟨t', e7, e8⟩ := bind_some e6
      refine BoolOp_and ?_
      have P2 := pst.step (Nat.le_trans t1 t2) x1
      refine ih c N sc env A₀ A m h1 h2 b ok.1.2 V₀ hA e5 { s with heap := H1, toks := T2 } β1 _ E (g1.toks t2) (Fm.ext x1 (Nat.le_trans t1 t2)) fun y β3 H3 T3 t3 x3 g3 r3 => ?_
      refine truth_sound (s := { s with heap := H3, toks := T3 }) ok0 g3 r3 e7 fun T4 t4 => ?_
      have F3 := (Fm.ext x1 (Nat.le_trans t1 t2)).ext x3 (Nat.le_trans t3 t4)
      cases t' with
      | true => exact BoolOp_one (ih r N sc env A₀ A m h2 h' v ok.2 V₀ hA e8 { s with heap := H3, toks := T4 } β3 _ E (g3.toks t4) F3 (P2.step (Nat.le_trans t3 t4) x3))
      | false => cases e8; exact P2 y β3 H3 T4 (Nat.le_trans t3 t4) x3 (g3.toks t4) (r3.mono (Pre.refl _) t4)
    | false => cases e4; exact pst x β1 H1 T2 (Nat.le_trans t1 t2) x1 (g1.toks t2) (r1.mono (Pre.refl _) t2)
  | not x p =>
    replace ok := (show ME.ok N sc _ = true from ok)
    obtain ⟨⟨a, h1⟩, e1, e2⟩ := bind_some hs
    obtain ⟨t, e3, e4⟩ := map_some e2
    cases e4
    refine UnaryOp_ ?_
    refine ih x N sc env A₀ A m h _ a ok V₀ hA e1 s β _ E G Fm fun x β1 H1 T1 t1 x1 g1 r1 => ?_
    refine not_of (truth_sound (s := { s with heap := H1, toks := T1 }) ok0 g1 r1 e3 fun T2 t2 => ?_)
    exact pst _ β1 H1 T2 (Nat.le_trans t1 t2) x1 (g1.toks t2) rfl
  | neg x p =>
    replace ok := (show ME.ok N sc _ = true from ok)
    obtain ⟨⟨a, h1⟩, e1, e2⟩ := bind_some hs
    refine UnaryOp_ ?_
    refine ih x N sc env A₀ A m h _ a ok V₀ hA e1 s β _ E G Fm fun x β1 H1 T1 t1 x1 g1 r1 => ?_
    simp only at e2
    split at e2
    · cases e2
      obtain ⟨t, rfl⟩ := r1
      exact PyProof.Rows.neg_int (pst _ β1 H1 (T1 + 1) (Nat.le_succ_of_le t1) x1 (g1.toks (Nat.le_succ _)) ⟨_, rfl⟩)
    · cases e2
  | ite t b o p =>
    replace ok := (show (_ && _) = true from ok)
    simp only [Bool.and_eq_true] at ok
    obtain ⟨⟨a, h1⟩, e1, e2⟩ := bind_some hs
    obtain ⟨c, e3, e4⟩ := bind_some e2
    refine IfExp_ ?_
    refine it t N sc env A₀ A m h h1 a c ok.1.1 V₀ hA e1 e3 s β _ E G Fm fun β1 H1 T1 t1 x1 g1 => ?_
    cases c with
    | true => exact ih b N sc env A₀ A m h1 h' v ok.1.2 V₀ hA e4 { s with heap := H1, toks := T1 } β1 _ E g1 (Fm.ext x1 t1) (pst.step t1 x1)
    | false => exact ih o N sc env A₀ A m h1 h' v ok.2 V₀ hA e4 { s with heap := H1, toks := T1 } β1 _ E g1 (Fm.ext x1 t1) (pst.step t1 x1)
  | idx x i p =>
    replace ok := (show (_ && _) = true from ok)
    simp only [Bool.and_eq_true] at ok
    obtain ⟨⟨a, h1⟩, e1, e2⟩ := bind_some hs
    obtain ⟨⟨b, h2⟩, e3, e4⟩ := bind_some e2
    obtain ⟨v', e5, e6⟩ := map_some e4
    cases e6
    refine Subscript_ ?_
    refine ih x N sc env A₀ A m h h1 a ok.1 V₀ hA e1 s β _ E G Fm fun x β1 H1 T1 t1 x1 g1 r1 => ?_
    refine ih i N sc env A₀ A m h1 _ b ok.2 V₀ hA e3 { s with heap := H1, toks := T1 } β1 _ E g1 (Fm.ext x1 t1) fun y β2 H2 T2 t2 x2 g2 r2 => ?_
    exact idx_sound (s := { s with heap := H2, toks := T2 }) ok0 g2 e5 (r1.mono x2.pre t2) r2 (fun l u p => noSlice _ l u p) ((pst.step t1 x1).step t2 x2)
  | slice x lo hi sp p => exact ev_slice ih V₀ hA ok hs G Fm pst
  | call f as p => exact ev_call ok0 ih ic V₀ hA ok hs G Fm pst
  | bcall n np as p => exact ev_bcall ok0 ih V₀ hA ok hs G Fm pst
  | meth n x ap as p =>
    cases n with
    | replace => exact ev_replace ok0 ih V₀ hA hev ok hs G Fm pst
    | _ => simp [ME.ok] at ok
  | list es p => exact ev_list ih V₀ hA ok hs G Fm pst
  | dict sp ks vs p =>
    cases sp with
    | no => exact ev_dict0 ok hs G pst
    | yes x => exact ev_spread ok0 ih V₀ hA ok hs G Fm pst
end
end Mine

end

section
open PySem PySem.Calls PyProof.Rows PySem.W
namespace Mine
section
variable {C : Cx} {N : Nm} {sc : Scope} {env : Env} {A₀ : Addr} {A : Around} {d : Nat} {m : M} {h h' : Hp} {v : V} {s : Shared} {β : List Addr} {Q : Bool → Shared → Prop} {E : Value → Shared → Prop} {S : Sm}

theorem stepT_sound (ok0 : C.Ok) (ih : SEv C S d) (it : STr C S d) (ic : SCl C S d) (hev : ∀ (c : C0) (p : Pos) (m : M) (h : Hp) r, S.ev (.cst c p) m h = some r → r = (c.val, h)) {t : Bool}
    (e : ME) (ok : e.ok N sc = true) (V₀ : EnvOk C N sc env A₀) (hA : AOk A d) (hs : stepE C.X S e m h = some (v, h')) (ht : truth C.X h' v = some t) (G : Gd C.w C.L C.G β s.toks h s.heap) (Fm : Frm C.L C.G N β s.toks m A₀ s.heap)
    (k : ∀ β' H' T', s.toks ≤ T' → Ext β s.heap β' H' → Gd C.w C.L C.G β' T' h' H' → Q t { s with heap := H', toks := T' }) :
    wpAny (model C.prog C.w) A (isTrue (e.back N) env (eval (e.back N) env)) Q E s := by
  have plain : ∀ (he : isTrue (e.back N) env (eval (e.back N) env) = (do let v ← eval (e.back N) env; standAt (e.back N).pos; holding [v] (truthy v))), wpAny (model C.prog C.w) A (isTrue (e.back N) env (eval (e.back N) env)) Q E s := by
    intro he
    refine isTrue_plain ?_ he
    refine stepE_sound ok0 ih it ic hev e ok V₀ hA hs G Fm fun x β1 H1 T1 t1 x1 g1 r1 => ?_
    exact truth_sound (s := { s with heap := H1, toks := T1 }) ok0 g1 r1 ht fun T2 t2 => k β1 H1 T2 (Nat.le_trans t1 t2) x1 (g1.toks t2)
  have k' : ∀ {β1 H1 T1} (t1 : s.toks ≤ T1) (x1 : Ext β s.heap β1 H1), ∀ β' H' T', T1 ≤ T' → Ext β1 H1 β' H' → Gd C.w C.L C.G β' T' h' H' → Q t { s with heap := H', toks := T' } :=
    fun t1 x1 β' H' T' t2 x2 g2 => k β' H' T' (Nat.le_trans t1 t2) (x1.trans x2) g2
  cases e with
  | cmp op l r p =>
    replace ok := (show (_ && _) = true from ok)
    simp only [Bool.and_eq_true] at ok
    obtain ⟨⟨a, h1⟩, e1, e2⟩ := bind_some hs
    obtain ⟨⟨b, h2⟩, e3, e4⟩ := bind_some e2
    obtain ⟨c, e5, e6⟩ := map_some e4
    cases e6
    cases ht
    refine wpAny_isTrue_Compare1 ?_ (noMarks r)
    refine ih l N sc env A₀ A m h h1 a ok.1 V₀ hA e1 s β _ E G Fm fun x β1 H1 T1 t1 x1 g1 r1 => ?_
    refine ih r N sc env A₀ A m h1 _ b ok.2 V₀ hA e3 { s with heap := H1, toks := T1 } β1 _ E g1 (Fm.ext x1 t1) fun y β2 H2 T2 t2 x2 g2 r2 => ?_
    exact cmp_sound (s := { s with heap := H2, toks := T2 }) ok0 g2 e5 (r1.mono x2.pre t2) r2 fun T t3 => wpAny_truthy_bool (k β2 H2 T (Nat.le_trans t1 (Nat.le_trans t2 t3)) (x1.trans x2) (g2.toks t3))
  | and2 l r p =>
    replace ok := (show (_ && _) = true from ok)
    simp only [Bool.and_eq_true] at ok
    obtain ⟨⟨a, h1⟩, e1, e2⟩ := bind_some hs
    obtain ⟨t1, e3, e4⟩ := bind_some e2
    refine isTrue_and (it l N sc env A₀ A m h h1 a t1 ok.1 V₀ hA e1 e3 s β _ E G Fm fun β1 H1 T1 q1 x1 g1 => ?_)
    cases t1 with
    | true =>
      refine isTrue_and (it r N sc env A₀ A m h1 h' v t ok.2 V₀ hA e4 ht { s with heap := H1, toks := T1 } β1 _ E g1 (Fm.ext x1 q1) fun β2 H2 T2 q2 x2 g2 => ?_)
      have := k' q1 x1 β2 H2 T2 q2 x2 g2
      cases t with
      | true => exact isTrue_and_nil this
      | false => exact this
    | false => cases e4; rw [e3] at ht; cases ht; exact k β1 H1 T1 q1 x1 g1
  | or2 l r p =>
    replace ok := (show (_ && _) = true from ok)
    simp only [Bool.and_eq_true] at ok
    obtain ⟨⟨a, h1⟩, e1, e2⟩ := bind_some hs
    obtain ⟨t1, e3, e4⟩ := bind_some e2
    refine isTrue_or (it l N sc env A₀ A m h h1 a t1 ok.1 V₀ hA e1 e3 s β _ E G Fm fun β1 H1 T1 q1 x1 g1 => ?_)
    cases t1 with
    | false =>
      refine isTrue_or (it r N sc env A₀ A m h1 h' v t ok.2 V₀ hA e4 ht { s with heap := H1, toks := T1 } β1 _ E g1 (Fm.ext x1 q1) fun β2 H2 T2 q2 x2 g2 => ?_)
      have := k' q1 x1 β2 H2 T2 q2 x2 g2
      cases t with
      | true => exact this
      | false => exact isTrue_or_nil this
    | true => cases e4; rw [e3] at ht; cases ht; exact k β1 H1 T1 q1 x1 g1
  | and3 l c r p =>
    replace ok := (show (_ && _) = true from ok)
    simp only [Bool.and_eq_true] at ok
    obtain ⟨⟨a, h1⟩, e1, e2⟩ := bind_some hs
    obtain ⟨t1, e3, e4⟩ := bind_some e2
    refine isTrue_and (it l N sc env A₀ A m h h1 a t1 ok.1.1 V₀ hA e1 e3 s β _ E G Fm fun β1 H1 T1 q1 x1 g1 => ?_)
    cases t1 with
    | true =>
      obtain ⟨⟨b, h2⟩, e5, e6⟩ := bind_some e4
      obtain ⟨t2, e7, e8⟩ := bind_some e6
      refine isTrue_and (it c N sc env A₀ A m h1 h2 b t2 ok.1.2 V₀ hA e5 e7 { s with heap := H1, toks := T1 } β1 _ E g1 (Fm.ext x1 q1) fun β2 H2 T2 q2 x2 g2 => ?_)
      cases t2 with
      | true =>
        refine isTrue_and (it r N sc env A₀ A m h2 h' v t ok.2 V₀ hA e8 ht { s with heap := H2, toks := T2 } β2 _ E g2 ((Fm.ext x1 q1).ext x2 q2) fun β3 H3 T3 q3 x3 g3 => ?_)
        have := k' (Nat.le_trans q1 q2) (x1.trans x2) β3 H3 T3 q3 x3 g3
        cases t with
        | true => exact isTrue_and_nil this
        | false => exact this
      | false => cases e8; rw [e7] at ht; cases ht; exact k β2 H2 T2 (Nat.le_trans q1 q2) (x1.trans x2) g2
    | false => cases e4; rw [e3] at ht; cases ht; exact k β1 H1 T1 q1 x1 g1
  | not x p =>
    replace ok := (show ME.ok N sc _ = true from ok)
    obtain ⟨⟨a, h1⟩, e1, e2⟩ := bind_some hs
    obtain ⟨t1, e3, e4⟩ := map_some e2
    cases e4
    cases ht
    exact isTrue_not (it x N sc env A₀ A m h _ a t1 ok V₀ hA e1 e3 s β _ E G Fm fun β1 H1 T1 q1 x1 g1 => k β1 H1 T1 q1 x1 g1)
  | ite t1 b o p =>
    replace ok := (show (_ && _) = true from ok)
    simp only [Bool.and_eq_true] at ok
    obtain ⟨⟨a, h1⟩, e1, e2⟩ := bind_some hs
    obtain ⟨c, e3, e4⟩ := bind_some e2
    refine isTrue_IfExp (it t1 N sc env A₀ A m h h1 a c ok.1.1 V₀ hA e1 e3 s β _ E G Fm fun β1 H1 T1 q1 x1 g1 => ?_)
    cases c with
    | true => exact it b N sc env A₀ A m h1 h' v t ok.1.2 V₀ hA e4 ht { s with heap := H1, toks := T1 } β1 _ E g1 (Fm.ext x1 q1) (k' q1 x1)
    | false => exact it o N sc env A₀ A m h1 h' v t ok.2 V₀ hA e4 ht { s with heap := H1, toks := T1 } β1 _ E g1 (Fm.ext x1 q1) (k' q1 x1)
  | dict sp ks vs p => cases sp <;> exact plain rfl
  | _ => exact plain rfl
end
end Mine

end

section
open PySem PySem.Calls PyProof.Rows PySem.W
namespace Mine

/-- how a statement leaves the heap: its own frame may turn -/
structure ExtF (A₀ : Addr) (β : List Addr) (H : Heap) (β' : List Addr) (H' : Heap) : Prop where
  pre : Pre β β'
  keep : ∀ b o, b ∉ β → b ≠ A₀ → H.get? b = some o → H'.get? b = some o ∧ b ∉ β'
theorem ExtF.refl (A₀ : Addr) (β : List Addr) (H : Heap) : ExtF A₀ β H β H := ⟨Pre.refl β, fun _ _ n _ e => ⟨e, n⟩⟩
theorem ExtF.trans {A₀ : Addr} {a b c : List Addr} {H₁ H₂ H₃ : Heap} (x : ExtF A₀ a H₁ b H₂) (y : ExtF A₀ b H₂ c H₃) : ExtF A₀ a H₁ c H₃ :=
  ⟨x.pre.trans y.pre, fun q o n m e => let ⟨e1, n1⟩ := x.keep q o n m e; y.keep q o n1 m e1⟩
theorem Ext.toF {A₀ : Addr} {a b : List Addr} {H₁ H₂ : Heap} (x : Ext a H₁ b H₂) : ExtF A₀ a H₁ b H₂ := ⟨x.pre, fun q o n _ e => x.keep q o n e⟩

noncomputable def FlR (L : Pl) (β : List Addr) (T : Nat) : Fl → Flow → Prop
  | .next, f => f = .next
  | .brk, f => f = .brk
  | .cont, f => f = .cont
  | .ret v, f => ∃ x, f = .ret x ∧ VR L β T v x

noncomputable def PstX (C : Cx) (N : Nm) (A₀ : Addr) (s : Shared) (β : List Addr) (f : Fl) (m' : M) (h' : Hp) (Q : Flow → Shared → Prop) : Prop :=
  ∀ x β' H' T', s.toks ≤ T' → ExtF A₀ β s.heap β' H' → Gd C.w C.L C.G β' T' h' H' → Frm C.L C.G N β' T' m' A₀ H' → FlR C.L β' T' f x → Q x { s with heap := H', toks := T' }

noncomputable def SEx (C : Cx) (S : Sm) (d : Nat) : Prop :=
  ∀ (b : MSs) (N : Nm) (sc : Scope) (env : Env) (A₀ : Addr) (A : Around) (m m' : M) (h h' : Hp) (f : Fl), b.ok N sc = true → EnvOk C N sc env A₀ → AOk A d → S.ex b m h = some (f, m', h') →
  ∀ (s : Shared) (β : List Addr) (Q : Flow → Shared → Prop) (E : Value → Shared → Prop), Gd C.w C.L C.G β s.toks h s.heap → Frm C.L C.G N β s.toks m A₀ s.heap → PstX C N A₀ s β f m' h' Q → wpAny (model C.prog C.w) A (execs (b.back N) env) Q E s

section
variable {C : Cx} {N : Nm} {sc : Scope} {env : Env} {A₀ : Addr} {A : Around} {d : Nat} {m m' : M} {h h' : Hp} {f : Fl} {s : Shared} {β : List Addr} {Q : Flow → Shared → Prop} {E : Value → Shared → Prop} {S : Sm}

theorem PstX.step {β' : List Addr} {H' : Heap} {T' : Nat} (P : PstX C N A₀ s β f m' h' Q) (ht : s.toks ≤ T') (x : ExtF A₀ β s.heap β' H') : PstX C N A₀ { s with heap := H', toks := T' } β' f m' h' Q :=
  fun y β'' H'' T'' ht' x' g F r => P y β'' H'' T'' (Nat.le_trans ht ht') (x.trans x') g F r

theorem noSwap {N : Nm} {t : Option Expr} {l : Nat} : ∀ e : ME, swapsWith (e.back N) t l env = pure false := by
  intro e
  cases e <;> first | rfl | (rename_i sp ks vs p; cases sp <;> rfl)

/-- a store into a name -/
theorem store_sound {i : Nat} {x : Value} {v : V} {Q : Unit → Shared → Prop} (V₀ : EnvOk C N sc env A₀) (ok : okSlot N sc i = true) (G : Gd C.w C.L C.G β s.toks h s.heap) (Fm : Frm C.L C.G N β s.toks m A₀ s.heap) (r : VR C.L β s.toks v x)
    (k : ∀ H' T', s.toks ≤ T' → ExtF A₀ β s.heap β H' → Gd C.w C.L C.G β T' h H' → Frm C.L C.G N β T' (m.set i (some v)) A₀ H' → Q () { s with heap := H', toks := T' }) :
    wpAny (model C.prog C.w) A (storeName env (N.slots.getD i default) x) Q E s := by
  simp only [okSlot, Bool.and_eq_true, decide_eq_true_eq, beq_iff_eq] at ok
  obtain ⟨⟨fm, hn, l⟩, out, new⟩ := Fm
  refine wpAny_storeName_local (by unfold Env.kindOf; rw [V₀.scp]; exact ok.2) (by rw [V₀.loc]; exact hn) (fun H' hn' hs' => ?_) (by rw [V₀.scp, V₀.kind]; rfl)
  rw [V₀.loc] at hn' hs'
  refine k H' (s.toks + 1) (Nat.le_succ _) ⟨Pre.refl _, fun b o n m e => ⟨(hs'.2 b m).trans e, n⟩⟩ ((G.toks (Nat.le_succ _)).but out new fun b o n e => (hs'.2 b n).trans e) ⟨⟨_, hn', ?_⟩, out, new⟩
  exact (l.mono (Pre.refl _) (Nat.le_succ _)).set (r.mono (Pre.refl _) (Nat.le_succ _)) V₀.nd ok.1

theorem ex_asg {i : Nat} {tp p : Pos} {e : ME} (ih : SEv C S d) (V₀ : EnvOk C N sc env A₀) (hA : AOk A d) (ok : MS.ok N sc (.asg i tp e p) = true) (hs : stepS C.X S (.asg i tp e p) m h = some (f, m', h')) (G : Gd C.w C.L C.G β s.toks h s.heap) (Fm : Frm C.L C.G N β s.toks m A₀ s.heap) (pst : PstX C N A₀ s β f m' h' Q) :
    wpAny (model C.prog C.w) A (exec ((MS.asg i tp e p).back N) env) Q E s := by
  replace ok := (show (_ && _) = true from ok)
  simp only [Bool.and_eq_true] at ok
  obtain ⟨⟨v, h1⟩, e1, e2⟩ := bind_some hs
  cases e2
  refine wpAny_Assign_Name ?_ (noSwap e)
  refine ih e N sc env A₀ A m h _ v ok.2 V₀ hA e1 s β _ E G Fm fun x β1 H1 T1 t1 x1 g1 r1 => ?_
  refine store_sound (s := { s with heap := H1, toks := T1 }) V₀ ok.1 g1 (Fm.ext x1 t1) r1 fun H2 T2 t2 x2 g2 f2 => ?_
  exact pst .next β1 H2 T2 (Nat.le_trans t1 t2) (x1.toF.trans x2) g2 f2 rfl

noncomputable def isStar : Expr → Bool
  | .Starred .. => true
  | _ => false
theorem notStar {N : Nm} : ∀ e : ME, isStar (e.back N) = false := by
  intro e
  cases e <;> first | rfl | (rename_i sp ks vs p; cases sp <;> rfl)
noncomputable def selN (env : Env) (l : Nat) : Expr → Option Str
  | .Name id pos => if env.kindOf id == some .local && pos.line == l then some id else none
  | _ => none

theorem swapped_form {x y : Str} {px py tp vp : Pos} {a b : Expr} :
    swappedStores [.Tuple [.Name x px, .Name y py] 0 tp] (.Tuple [a, b] 0 vp) env =
      (if (env.blockKind != .function) = true then pure none else if ([a, b].any isStar) = true then pure none
       else if (([Expr.Name x px, Expr.Name y py].filterMap (selN env px.line)).length != 2 || ([Expr.Name x px, Expr.Name y py].filterMap (selN env px.line)).eraseDups.length != ([Expr.Name x px, Expr.Name y py].filterMap (selN env px.line)).length) = true then pure none
       else if ([a, b].all (foldedForSure 8)) = true then pure none else if ([a, b].all (constantsAlone 8)) = true then (do
         unsupported "assign.tuple-of-constant-expressions:order-of-the-stores"
         pure (some ([Expr.Name x px, Expr.Name y py].filterMap (selN env px.line)))) else pure (some ([Expr.Name x px, Expr.Name y py].filterMap (selN env px.line)))) := by
  rfl

theorem swapped_is {x y : Str} {px py tp vp : Pos} {a b : ME} (hx : env.kindOf x = some .local) (hy : env.kindOf y = some .local) (hl : px.line = py.line) (hxy : (x == y) = false) (hk : env.blockKind = .function) :
    swappedStores [.Tuple [.Name x px, .Name y py] 0 tp] (.Tuple [a.back N, b.back N] 0 vp) env =
      (if (foldedForSure 8 (a.back N) && foldedForSure 8 (b.back N)) = true then pure none else if (constantsAlone 8 (a.back N) && constantsAlone 8 (b.back N)) = true then unsupported "assign.tuple-of-constant-expressions:order-of-the-stores" else pure (some [x, y])) := by
  rw [swapped_form]
  have hn : [Expr.Name x px, Expr.Name y py].filterMap (selN env px.line) = [x, y] := by
    simp [selN, hx, hy, hl]
  have he : ([x, y].eraseDups).length = 2 := by
    have : (y == x) = false := by
      cases e : y == x with
      | false => rfl
      | true => rw [beq_iff_eq.mp e] at hxy; simp at hxy
    simp [List.eraseDups_cons, this]
  have hs : [a.back N, b.back N].any isStar = false := by simp [notStar]
  rw [hn, hs, he, hk]
  simp only [List.all_cons, List.all_nil, Bool.and_true]
  cases (foldedForSure 8 (a.back N) && foldedForSure 8 (b.back N)) <;> cases (constantsAlone 8 (a.back N) && constantsAlone 8 (b.back N)) <;> rfl
end
end Mine

end

section
open PySem PySem.Calls PyProof.Rows PySem.W
namespace Mine
section
variable {C : Cx} {N : Nm} {sc : Scope} {env : Env} {A₀ : Addr} {A : Around} {d : Nat} {m m' : M} {h h' : Hp} {f : Fl} {s : Shared} {β : List Addr} {Q : Flow → Shared → Prop} {E : Value → Shared → Prop} {S : Sm}

theorem extBut_keep {H H' H'' : Heap} (hk : ∀ b o, H.get? b = some o → H'.get? b = some o) (x : Heap.ExtBut H'.objs.size H' H'') : ∀ b o, H.get? b = some o → H''.get? b = some o := by
  intro b o e
  refine x b o (fun z => ?_) (hk b o e)
  have := Heap.lt_size (hk b o e)
  rw [z] at this
  exact absurd this (Nat.lt_irrefl _)

/-- two values stored into two names, in one order or the other -/
theorem store2 {i j : Nat} {x y : Value} {u v : V} {Q : Unit → Shared → Prop} (V₀ : EnvOk C N sc env A₀) (oki : okSlot N sc i = true) (okj : okSlot N sc j = true) (G : Gd C.w C.L C.G β s.toks h s.heap) (Fm : Frm C.L C.G N β s.toks m A₀ s.heap) (ru : VR C.L β s.toks u x) (rv : VR C.L β s.toks v y)
    (k : ∀ H' T', s.toks ≤ T' → ExtF A₀ β s.heap β H' → Gd C.w C.L C.G β T' h H' → Frm C.L C.G N β T' ((m.set i (some u)).set j (some v)) A₀ H' → Q () { s with heap := H', toks := T' }) :
    wpAny (model C.prog C.w) A (storeName env (N.slots.getD i default) x) (fun _ s' => wpAny (model C.prog C.w) A (storeName env (N.slots.getD j default) y) Q E s') E s := by
  refine store_sound V₀ oki G Fm ru fun H1 T1 t1 x1 g1 f1 => ?_
  refine store_sound (s := { s with heap := H1, toks := T1 }) V₀ okj g1 f1 (rv.mono x1.pre t1) fun H2 T2 t2 x2 g2 f2 => ?_
  exact k H2 T2 (Nat.le_trans t1 t2) (x1.trans x2) g2 f2

theorem ex_asg2 {i j : Nat} {tpi tpj tp vp p : Pos} {a b : ME} (ih : SEv C S d) (V₀ : EnvOk C N sc env A₀) (hA : AOk A d) (ok : MS.ok N sc (.asg2 i j tpi tpj tp a b vp p) = true) (hs : stepS C.X S (.asg2 i j tpi tpj tp a b vp p) m h = some (f, m', h')) (G : Gd C.w C.L C.G β s.toks h s.heap) (Fm : Frm C.L C.G N β s.toks m A₀ s.heap) (pst : PstX C N A₀ s β f m' h' Q) :
    wpAny (model C.prog C.w) A (exec ((MS.asg2 i j tpi tpj tp a b vp p).back N) env) Q E s := by
  replace ok := (show (_ && _) = true from ok)
  simp only [Bool.and_eq_true] at ok
  obtain ⟨⟨⟨⟨⟨⟨oki, okj⟩, hne⟩, hln⟩, oka⟩, okb⟩, hsw⟩ := ok
  have oki' := oki
  have okj' := okj
  simp only [okSlot, Bool.and_eq_true, decide_eq_true_eq, beq_iff_eq] at oki' okj'
  have hne' : (N.slots.getD i default == N.slots.getD j default) = false := by simpa using hne
  have hij : i ≠ j := by
    rintro rfl
    simp at hne'
  obtain ⟨⟨u, h1⟩, e1, e2⟩ := bind_some hs
  obtain ⟨⟨v, h2⟩, e3, e4⟩ := bind_some e2
  cases e4
  have hx : env.kindOf (N.slots.getD i default) = some .local := by unfold Env.kindOf; rw [V₀.scp]; exact oki'.2
  have hy : env.kindOf (N.slots.getD j default) = some .local := by unfold Env.kindOf; rw [V₀.scp]; exact okj'.2
  have hw := swapped_is (N := N) (px := tpi) (py := tpj) (tp := tp) (vp := vp) (a := a) (b := b) hx hy (by simpa using hln) hne' (by unfold Env.blockKind; rw [V₀.scp, V₀.kind]; rfl)
  have he : evs S (.cons a (.cons b .nil)) m h = some ([u, v], h') := by simp [evs, e1, e3]
  have hval : ∀ (Q' : Value → Shared → Prop), (∀ t x y β1 H1 T1, s.toks ≤ T1 → Ext β s.heap β1 H1 → Gd C.w C.L C.G β1 T1 h' H1 → IsTup H1 t #[x, y] → VR C.L β1 T1 u x → VR C.L β1 T1 v y → Q' (.ref t) { s with heap := H1, toks := T1 }) →
      wpAny (model C.prog C.w) A (eval (.Tuple [a.back N, b.back N] 0 vp) env) Q' E s := by
    intro Q' k
    refine Tuple_ ?_
    rw [show [a.back N, b.back N] = (MEs.cons a (.cons b .nil)).back N from rfl, trees]
    refine args_sound ih V₀ hA _ h h' [u, v] (by simp [MEs.ok, oka, okb]) he s β _ E G Fm fun xs β1 H1 T1 t1 x1 g1 r1 => ?_
    obtain ⟨x, xs, rfl⟩ : ∃ x r, xs = x :: r := by cases xs with | nil => exact r1.elim | cons x r => exact ⟨x, r, rfl⟩
    obtain ⟨y, xs, rfl⟩ : ∃ x r, xs = x :: r := by cases xs with | nil => exact r1.2.elim | cons x r => exact ⟨x, r, rfl⟩
    obtain rfl : xs = [] := by cases xs with | nil => rfl | cons => exact r1.2.2.elim
    refine wpAny_newTuple ?_ (by show 2 ≤ sizeLine; rw [sizeLine_eq]; decide)
    refine k _ x y β1 _ T1 t1 (x1.trans (Ext.grow (get?_push_keep _))) (g1.grow (get?_push_keep _)) ⟨_, Heap.get?_push_size _ rfl, rfl, _, rfl⟩ r1.1 r1.2.1
  have fin : ∀ (t1 : Nat) (H1 : Heap) (β1 : List Addr) (m2 : M), m2 = (m.set i (some u)).set j (some v) → s.toks ≤ t1 → Ext β s.heap β1 H1 → ∀ H' T', t1 ≤ T' → ExtF A₀ β1 H1 β1 H' → Gd C.w C.L C.G β1 T' h' H' → Frm C.L C.G N β1 T' m2 A₀ H' → Q .next { s with heap := H', toks := T' } := by
    rintro t1 H1 β1 m2 rfl ht1 x1 H' T' t2 x2 g2 f2
    exact pst .next β1 H' T' (Nat.le_trans ht1 t2) (x1.toF.trans x2) g2 f2 rfl
  by_cases hf : (foldedForSure 8 (a.back N) && foldedForSure 8 (b.back N)) = true
  · rw [if_pos hf] at hw
    refine Assign_Tuple ?_ rfl hw
    refine hval _ fun t x y β1 H1 T1 t1 x1 g1 ht ru rv => ?_
    refine assign_Tuple_tuple hA.hd ht rfl rfl fun H2 q2 => ?_
    have hk := extBut_keep (fun b o e => e) q2
    have x2 := x1.trans (Ext.grow (β := β1) hk)
    have g2 := g1.grow hk
    show wpAny _ _ (assignInOrder [assign (.Name _ tpi) env, assign (.Name _ tpj) env] [x, y]) _ _ _
    refine assignInOrder_cons (assign_Name ?_)
    refine wpAny_mono (store2 (s := { s with heap := H2, toks := T1 }) (Q := fun _ s' => Q .next s') V₀ oki okj g2 (Fm.ext x2 t1) ru rv (fin T1 H2 β1 _ rfl t1 x2)) (fun _ _ q => assignInOrder_cons (assign_Name (wpAny_mono q (fun _ _ q => assignInOrder_nil q) fun _ _ q => q))) fun _ _ q => q
  · rw [if_neg hf] at hw
    have hc : ¬ (constantsAlone 8 (a.back N) && constantsAlone 8 (b.back N)) = true := by
      intro hc
      rw [hc] at hsw
      simp at hsw
      exact hf (by rw [Bool.and_eq_true]; exact hsw)
    rw [if_neg hc] at hw
    refine Assign_Tuple_swapped ?_ rfl hw
    refine hval _ fun t x y β1 H1 T1 t1 x1 g1 ht ru rv => ?_
    have hlen : ([N.slots.getD i default, N.slots.getD j default] : List Str).length = (#[x, y] : Array Value).size := by simp
    rw [hlen]
    refine unpackItems_tuple hA.hd ht fun H2 q2 => ?_
    have hk := extBut_keep (fun b o e => e) q2
    have x2 := x1.trans (Ext.grow (β := β1) hk)
    have g2 := g1.grow hk
    show wpAny _ _ (assignInOrder [fun z => bindName env (N.slots.getD j default) z, fun z => bindName env (N.slots.getD i default) z] [y, x]) _ _ _
    have k2 := store2 (s := { s with heap := H2, toks := T1 }) (Q := fun _ s' => Q .next s') (E := E) (A := A) V₀ okj oki g2 (Fm.ext x2 t1) rv ru (fin T1 H2 β1 _ (List.set_comm _ _ (Ne.symm hij)) t1 x2)
    refine assignInOrder_cons ?_
    show wpAny _ _ (bindName env (N.slots.getD j default) y) _ _ _
    refine bindName_ (wpAny_mono k2 (fun _ s' q => ?_) fun _ _ q => q)
    refine assignInOrder_cons ?_
    show wpAny _ _ (bindName env (N.slots.getD i default) x) _ _ _
    exact bindName_ (wpAny_mono q (fun _ _ q => assignInOrder_nil q) fun _ _ q => q)
end
end Mine

end

section
open PySem PySem.Calls PyProof.Rows PySem.W
namespace Mine
section
variable {C : Cx} {N : Nm} {sc : Scope} {env : Env} {A₀ : Addr} {A : Around} {d : Nat} {m m' : M} {h h' : Hp} {f : Fl} {s : Shared} {β : List Addr} {Q : Flow → Shared → Prop} {E : Value → Shared → Prop} {S : Sm}

theorem ex_sets_core {o : Addr} {r : Nat} {rep rep' : Bool} {ep : Nat} {es : List (List Nat × V)} {k : List Nat} {v : V} {x : Value} {t : Tok} {T₀ : Nat} {Q : Unit → Shared → Prop} (ha : β[r]? = some o) (hr : h[r]? = some (.dict rep ep es)) (G : Gd C.w C.L C.G β s.toks h s.heap)
    (G0 : Gd C.w C.L C.G β T₀ h s.heap) (hT : T₀ ≤ s.toks) (Fm : Frm C.L C.G N β s.toks m A₀ s.heap) (hlen : ¬ LIM ≤ es.length) (t0 : 0 < t) (t1 : t < s.toks) (hk : k.length ≤ LIM) (rv : VR C.L β s.toks v x) (hrep : rep' = true → rep = true ∧ ∀ y u, x = .str y u → u ≠ t ∧ T₀ ≤ u)
    (k1 : ∀ H', ExtF A₀ β s.heap β H' → Gd C.w C.L C.G β (s.toks + 1) (h.set r (.dict rep' (ep + epAll es [(k, v)]) (putE k v es))) H' → Frm C.L C.G N β (s.toks + 1) m A₀ H' → Q () { s with heap := H', toks := s.toks + 1 }) :
    wpAny (model C.prog C.w) A (setItem (.ref o) (.str ⟨k.toArray⟩ t) x) Q E s := by
  obtain ⟨ob, hob, ents', rfl, al, nd, le⟩ := G0.objs r _ o hr ha
  obtain ⟨ents, rfl⟩ : ∃ l : List DictEntry, ents' = l.toArray := ⟨ents'.toList, by simp⟩
  have al' : All2 (ER C.w C.L β T₀ rep) es ents := by simpa using al
  have hl := al'.length
  refine setItem_at (ep := ep) (ents := ents) hob (keys_dict al') (by omega) fun H' q1 q2 => ?_
  rw [find_idx k al'] at q1
  have g1 := (G.toks (Nat.le_succ _)).update (o' := .dict rep' (ep + epAll es [(k, v)]) (putE k v es)) ha (fun b o n e => (q2.2 b n).trans e) q1 ?_
  · exact k1 H' g1.2.toF g1.1 (Fm.ext g1.2 (Nat.le_succ _))
  · refine ⟨(putD k t (hashStr C.w ⟨k.toArray⟩) x ents).toArray, ?_, ?_, putE_nd nd, ?_⟩
    · have hc : (if (es.findIdx? fun e => e.1 == k) = none then ep + 1 else ep) = ep + epAll es [(k, v)] := by
        rw [putE_ep]; split <;> rfl
      rw [← hc]
    · show All2 _ _ (putD k t (hashStr C.w ⟨k.toArray⟩) x ents)
      exact ER_put (Nat.le_trans hT (Nat.le_succ _)) t0 (Nat.lt_succ_of_lt t1) hk (rv.mono (Pre.refl _) (Nat.le_succ _)) hrep al'
    · rw [putE_len]; split <;> omega

theorem ex_sets {o i e : ME} {tp p : Pos} (ih : SEv C S d) (hev : ∀ (c : C0) (p : Pos) (m : M) (h : Hp) r, S.ev (.cst c p) m h = some r → r = (c.val, h))
    (hlo : ∀ (i : Nat) (p : Pos) (m : M) (h : Hp) r, S.ev (.loc i p) m h = some r → stepE C.X S (.loc i p) m h = some r)
    (V₀ : EnvOk C N sc env A₀) (hA : AOk A d) (ok : MS.ok N sc (.sets o i tp e p) = true) (hs : stepS C.X S (.sets o i tp e p) m h = some (f, m', h')) (G : Gd C.w C.L C.G β s.toks h s.heap) (Fm : Frm C.L C.G N β s.toks m A₀ s.heap) (pst : PstX C N A₀ s β f m' h' Q) :
    wpAny (model C.prog C.w) A (exec ((MS.sets o i tp e p).back N) env) Q E s := by
  replace ok := (show (_ && _) = true from ok)
  simp only [Bool.and_eq_true] at ok
  obtain ⟨⟨oko, oki⟩, oke⟩ := ok
  obtain ⟨⟨v, h1⟩, e1, hs⟩ := bind_some hs
  obtain ⟨⟨a, h2⟩, e2, hs⟩ := bind_some hs
  obtain ⟨⟨k', h3⟩, e3, hs⟩ := bind_some hs
  dsimp only at hs
  obtain ⟨r, k, rep, ep, es, rfl, rfl, hr, hlen, hs⟩ : ∃ r k rep ep es, a = .ref r ∧ k' = .str k ∧ h3[r]? = some (.dict rep ep es) ∧ ¬ LIM ≤ es.length ∧ some (Fl.next, m, h3.set r (.dict (rep && constSet o i e) (ep + epAll es [(k, v)]) (putE k v es))) = some (f, m', h') := by
    split at hs
    · split at hs
      · rename_i r k rep ep es hr
        split at hs
        · cases hs
        · rename_i hl
          exact ⟨_, _, _, _, _, rfl, rfl, hr, hl, hs⟩
      · cases hs
    · cases hs
  cases hs
  refine wpAny_Assign_Subscript ?_ (noSwap e)
  by_cases hc : constSet o i e = true
  · obtain ⟨j, p1, k0, p2, x0, p3, rfl, rfl, rfl⟩ : ∃ j p1 k0 p2 x0 p3, o = .loc j p1 ∧ i = .cst (.str k0) p2 ∧ e = .cst (.str x0) p3 := by
      unfold constSet at hc
      split at hc
      · exact ⟨_, _, _, _, _, _, rfl, rfl, rfl⟩
      · cases hc
    have q1 := hev _ _ _ _ _ e1
    have q3 := hev _ _ _ _ _ e3
    have q2 := hlo _ _ _ _ _ e2
    obtain ⟨v', hv', q2⟩ := map_some q2
    injection q1 with q1a q1b
    injection q2 with q2a q2b
    injection q3 with q3a q3b
    subst q1b q2b q3b q2a
    have hk0 : k = lit k0 := by injection q3a
    subst hk0 q1a
    simp only [ME.ok, C0.short, decide_eq_true_eq] at oki oke
    simp only [ME.ok, Bool.and_eq_true, Bool.not_eq_true', beq_iff_eq, decide_eq_true_eq] at oko
    refine Constant_str ?_
    have Fm' := Fm
    obtain ⟨⟨fn, hn, l⟩, _, _⟩ := Fm'
    obtain ⟨y, hy, ry⟩ := l.get hv'
    obtain ⟨ad, had, rfl⟩ := ry
    refine wpAny_Name (s := { s with toks := s.toks + 1 }) (wpAny_loadName_local (by rw [V₀.scp]; exact V₀.kind) (by unfold Env.kindOf; rw [V₀.scp]; exact oko.1.2) (by rw [V₀.loc]; exact hn) hy ?_) oko.2
    refine Constant_str (s := { s with toks := s.toks + 1 }) ?_
    refine ex_sets_core (s := { s with toks := s.toks + 1 + 1 }) (T₀ := s.toks) (x := .str _ s.toks) (t := s.toks + 1) (k := lit k0) (v := C0.val (.str x0)) (rep' := rep && constSet (.loc j p1) (.cst (.str k0) p2) (.cst (.str x0) p3)) (A₀ := A₀) (N := N) (m := m) had hr
      (G.toks (Nat.le_trans (Nat.le_succ _) (Nat.le_succ _))) G (Nat.le_trans (Nat.le_succ _) (Nat.le_succ _)) (Fm.ext (Ext.refl _ _) (Nat.le_trans (Nat.le_succ _) (Nat.le_succ _))) hlen (Nat.lt_of_lt_of_le G.pos (Nat.le_succ _)) (Nat.lt_succ_self _) (by unfold LIM; omega)
      (vr_lit x0 G.pos (Nat.lt_trans (Nat.lt_succ_self _) (Nat.lt_succ_self _)) (by unfold LIM; omega)) (fun z => ⟨by revert z; cases rep <;> simp, fun y u q => by cases q; exact ⟨Nat.ne_of_lt (Nat.lt_succ_self _), Nat.le_refl _⟩⟩) fun H' x1 g1 f1 => ?_
    exact pst .next β H' _ (Nat.le_trans (Nat.le_succ _) (Nat.le_trans (Nat.le_succ _) (Nat.le_succ _))) x1 g1 f1 rfl
  · refine ih e N sc env A₀ A m h h1 v oke V₀ hA e1 s β _ E G Fm fun x β1 H1 T1 t1 x1 g1 r1 => ?_
    refine ih o N sc env A₀ A m h1 h2 (.ref r) oko V₀ hA e2 { s with heap := H1, toks := T1 } β1 _ E g1 (Fm.ext x1 t1) fun y β2 H2 T2 t2 x2 g2 r2 => ?_
    refine ih i N sc env A₀ A m h2 h3 (.str k) oki V₀ hA e3 { s with heap := H2, toks := T2 } β2 _ E g2 (Fm.ext (x1.trans x2) (Nat.le_trans t1 t2)) fun z β3 H3 T3 t3 x3 g3 r3 => ?_
    obtain ⟨ad, had, rfl⟩ := r2
    obtain ⟨t, rfl, t0, t9, hkl⟩ := r3
    refine ex_sets_core (s := { s with heap := H3, toks := T3 }) (T₀ := T3) (rep' := rep && constSet o i e) (A₀ := A₀) (N := N) (m := m) (x3.pre.get had) hr g3 g3 (Nat.le_refl _) (Fm.ext ((x1.trans x2).trans x3) (Nat.le_trans t1 (Nat.le_trans t2 t3))) hlen t0 t9 hkl (r1.mono (x2.pre.trans x3.pre) (Nat.le_trans t2 t3))
      (fun z => absurd (by revert z; cases rep <;> simp) hc) fun H' x4 g4 f4 => ?_
    exact pst .next β3 H' _ (Nat.le_trans t1 (Nat.le_trans t2 (Nat.le_trans t3 (Nat.le_succ _)))) (((x1.trans x2).trans x3).toF.trans x4) g4 f4 rfl
end
end Mine

end

section
open PySem PySem.Calls PyProof.Rows PySem.W
namespace Mine
section
variable {C : Cx} {N : Nm} {sc : Scope} {env : Env} {A₀ : Addr} {A : Around} {d : Nat} {m m' : M} {h h' : Hp} {f : Fl} {s : Shared} {β : List Addr} {Q : Flow → Shared → Prop} {E : Value → Shared → Prop} {S : Sm}

theorem ex_ret {e : ME} {p : Pos} (ih : SEv C S d) (V₀ : EnvOk C N sc env A₀) (hA : AOk A d) (ok : MS.ok N sc (.ret e p) = true) (hs : stepS C.X S (.ret e p) m h = some (f, m', h')) (G : Gd C.w C.L C.G β s.toks h s.heap) (Fm : Frm C.L C.G N β s.toks m A₀ s.heap) (pst : PstX C N A₀ s β f m' h' Q) :
    wpAny (model C.prog C.w) A (exec ((MS.ret e p).back N) env) Q E s := by
  replace ok := (show ME.ok N sc _ = true from ok)
  obtain ⟨⟨v, h1⟩, e1, e2⟩ := bind_some hs
  cases e2
  refine wpAny_Return_some ?_
  refine ih e N sc env A₀ A m h _ v ok V₀ hA e1 s β _ E G Fm fun x β1 H1 T1 t1 x1 g1 r1 => ?_
  exact pst _ β1 H1 T1 t1 x1.toF g1 (Fm.ext x1 t1) ⟨x, rfl, r1⟩

theorem ex_brk {p : Pos} (hs : stepS C.X S (.brk p) m h = some (f, m', h')) (G : Gd C.w C.L C.G β s.toks h s.heap) (Fm : Frm C.L C.G N β s.toks m A₀ s.heap) (pst : PstX C N A₀ s β f m' h' Q) :
    wpAny (model C.prog C.w) A (exec ((MS.brk p).back N) env) Q E s := by
  cases hs
  exact wpAny_Break (pst .brk β s.heap s.toks (Nat.le_refl _) (ExtF.refl _ _ _) G Fm rfl)

theorem ex_ite {t : ME} {b o : MSs} {p : Pos} (ih : STr C S d) (ix : SEx C S d) (V₀ : EnvOk C N sc env A₀) (hA : AOk A d) (ok : MS.ok N sc (.ite t b o p) = true) (hs : stepS C.X S (.ite t b o p) m h = some (f, m', h')) (G : Gd C.w C.L C.G β s.toks h s.heap) (Fm : Frm C.L C.G N β s.toks m A₀ s.heap) (pst : PstX C N A₀ s β f m' h' Q) :
    wpAny (model C.prog C.w) A (exec ((MS.ite t b o p).back N) env) Q E s := by
  replace ok := (show (_ && _) = true from ok)
  simp only [Bool.and_eq_true] at ok
  obtain ⟨⟨v, h1⟩, e1, hs⟩ := bind_some hs
  obtain ⟨c, e2, hs⟩ := bind_some hs
  refine wpAny_If ?_
  refine ih t N sc env A₀ A m h h1 v c ok.1.1 V₀ hA e1 e2 s β _ E G Fm fun β1 H1 T1 t1 x1 g1 => ?_
  cases c with
  | true => exact ix b N sc env A₀ A m m' h1 h' f ok.1.2 V₀ hA hs { s with heap := H1, toks := T1 } β1 Q E g1 (Fm.ext x1 t1) (pst.step t1 x1.toF)
  | false => exact ix o N sc env A₀ A m m' h1 h' f ok.2 V₀ hA hs { s with heap := H1, toks := T1 } β1 Q E g1 (Fm.ext x1 t1) (pst.step t1 x1.toF)

theorem ex_while {t : ME} {b : MSs} {p : Pos} (ih : STr C S d) (ix : SEx C S d) (V₀ : EnvOk C N sc env A₀) (hA : AOk A d) (ok : MS.ok N sc (.while t b p) = true) (hs : stepS C.X S (.while t b p) m h = some (f, m', h')) (G : Gd C.w C.L C.G β s.toks h s.heap) (Fm : Frm C.L C.G N β s.toks m A₀ s.heap) (pst : PstX C N A₀ s β f m' h' Q) :
    wpAny (model C.prog C.w) A (exec ((MS.while t b p).back N) env) Q E s := by
  replace ok := (show (_ && _) = true from ok)
  simp only [Bool.and_eq_true] at ok
  refine wpAny_While ?_
  refine codeAny_whileLoop (I := fun n s1 => ∃ β1 H1 T1 m1 h1, s1 = { s with heap := H1, toks := T1 } ∧ s.toks ≤ T1 ∧ ExtF A₀ β s.heap β1 H1 ∧ Gd C.w C.L C.G β1 T1 h1 H1 ∧ Frm C.L C.G N β1 T1 m1 A₀ H1 ∧ mwhile C.X S t b n m1 h1 = some (f, m', h')) ?_ S.fu
    ⟨β, s.heap, s.toks, m, h, rfl, Nat.le_refl _, ExtF.refl _ _ _, G, Fm, hs⟩
  rintro n _ ⟨β1, H1, T1, m1, h1, rfl, t1, x1, g1, f1, e⟩
  cases n with
  | zero => cases e
  | succ n =>
    obtain ⟨⟨v, h2⟩, e1, e⟩ := bind_some e
    obtain ⟨c, e2, e⟩ := bind_some e
    refine ih t N sc env A₀ A m1 h1 h2 v c ok.1 V₀ hA e1 e2 { s with heap := H1, toks := T1 } β1 _ _ g1 f1 fun β2 H2 T2 t2 x2 g2 => ?_
    have f2 := f1.ext x2 t2
    cases c with
    | false =>
      cases e
      rw [if_neg (by decide)]
      refine wpAny_execs_nil ?_
      exact pst .next β2 H2 T2 (Nat.le_trans t1 t2) (x1.trans x2.toF) g2 f2 rfl
    | true =>
      rw [if_pos rfl]
      obtain ⟨⟨f3, m3, h3⟩, e3, e⟩ := bind_some e
      refine ix b N sc env A₀ A m1 m3 h2 h3 f3 ok.2 V₀ hA e3 { s with heap := H2, toks := T2 } β2 _ _ g2 f2 fun x β3 H3 T3 t3 x3 g3 fr3 r => ?_
      have tt := Nat.le_trans t1 (Nat.le_trans t2 t3)
      have xx := (x1.trans x2.toF).trans x3
      cases f3 with
      | next =>
        cases r
        exact ⟨n, Nat.lt_succ_self _, β3, H3, T3, m3, h3, rfl, tt, xx, g3, fr3, e⟩
      | cont =>
        cases r
        exact ⟨n, Nat.lt_succ_self _, β3, H3, T3, m3, h3, rfl, tt, xx, g3, fr3, e⟩
      | brk =>
        cases r
        cases e
        exact pst .next β3 H3 T3 tt xx g3 fr3 rfl
      | ret v =>
        obtain ⟨y, rfl, r⟩ := r
        cases e
        exact pst _ β3 H3 T3 tt xx g3 fr3 ⟨y, rfl, r⟩
end
end Mine

end

section
open PySem PySem.Calls PyProof.Rows PySem.W
namespace Mine

/-- an iterator object that gives vs, one by one -/
structure Itr (C : Cx) (A : Around) (I : Addr) (St : Nat → Obj → Prop) (vs : List V) (chk : Hp → Bool) (β₀ : List Addr) : Prop where
  item : ∀ (i : Nat) (v : V) (s : Shared) (β : List Addr) (h : Hp) (o : Obj) (Q : Option Value → Shared → Prop) (E : Value → Shared → Prop), vs[i]? = some v → Pre β₀ β → Gd C.w C.L C.G β s.toks h s.heap → chk h = true → s.heap.get? I = some o → St i o →
    (∀ x H' T' o', s.toks ≤ T' → H'.get? I = some o' → St (i + 1) o' → (∀ b q, b ≠ I → s.heap.get? b = some q → H'.get? b = some q) → VR C.L β T' v x → Q (some x) { s with heap := H', toks := T' }) → wpAny (model C.prog C.w) A (pyNext (.ref I)) Q E s
  done : ∀ (s : Shared) (β : List Addr) (h : Hp) (o : Obj) (Q : Option Value → Shared → Prop) (E : Value → Shared → Prop), Pre β₀ β → Gd C.w C.L C.G β s.toks h s.heap → chk h = true → s.heap.get? I = some o → St vs.length o →
    (∀ H' T', s.toks ≤ T' → (∀ b q, b ≠ I → s.heap.get? b = some q → H'.get? b = some q) → Q none { s with heap := H', toks := T' }) → wpAny (model C.prog C.w) A (pyNext (.ref I)) Q E s

section
variable {C : Cx} {N : Nm} {sc : Scope} {env : Env} {A₀ : Addr} {A : Around} {d : Nat} {m m' : M} {h h' : Hp} {f : Fl} {s : Shared} {β : List Addr} {Q : Flow → Shared → Prop} {E : Value → Shared → Prop} {S : Sm}

theorem ExtF.butI {β₀ β1 : List Addr} {H₀ H1 H2 : Heap} {I : Addr} (x : ExtF A₀ β₀ H₀ β1 H1) (hI : H₀.get? I = none) (hk : ∀ b q, b ≠ I → H1.get? b = some q → H2.get? b = some q) : ExtF A₀ β₀ H₀ β1 H2 :=
  ⟨x.pre, fun b o n m e => let ⟨e1, n1⟩ := x.keep b o n m e; ⟨hk b o (fun z => by rw [z, hI] at e; cases e) e1, n1⟩⟩
theorem Frm.but {T : Nat} {H H' : Heap} {I : Addr} (Fm : Frm C.L C.G N β T m A₀ H) (hne : A₀ ≠ I) (hk : ∀ b q, b ≠ I → H.get? b = some q → H'.get? b = some q) : Frm C.L C.G N β T m A₀ H' := by
  obtain ⟨⟨g, ⟨o, es, ep, ho, r⟩, l⟩, out, new⟩ := Fm
  exact ⟨⟨g, ⟨o, es, ep, hk _ _ hne ho, r⟩, l⟩, out, new⟩
theorem Frm.toks {T T' : Nat} {H : Heap} (Fm : Frm C.L C.G N β T m A₀ H) (ht : T ≤ T') : Frm C.L C.G N β T' m A₀ H := Fm.ext (Ext.refl _ _) ht

theorem for_loop {x : Nat} {xp : Pos} {b : MSs} {vs : List V} {chk : Hp → Bool} {St : Nat → Obj → Prop} {I : Addr} {o : Obj} {β₀ β₁ : List Addr} {H₀ : Heap} {T₀ : Nat} {R : Result → Shared → Prop} (ix : SEx C S d) (V₀ : EnvOk C N sc env A₀) (hA : AOk A d) (okx : okSlot N sc x = true) (okb : b.ok N sc = true)
    (hit : Itr C A I St vs chk β₁) (hpre : Pre β₁ β) (hI : I ∉ β) (hG : C.G.get? I = none) (hne : A₀ ≠ I) (hI0 : H₀.get? I = none) (x0 : ExtF A₀ β₀ H₀ β s.heap) (t0 : T₀ ≤ s.toks) (G : Gd C.w C.L C.G β s.toks h s.heap) (Fm : Frm C.L C.G N β s.toks m A₀ s.heap)
    (ho : s.heap.get? I = some o) (hst : St 0 o) (hs : mfor S chk x b vs m h = some (f, m', h')) (pst : PstX C N A₀ { s with heap := H₀, toks := T₀ } β₀ f m' h' (fun y s' => R (.ok y) s')) :
    codeAny (model C.prog C.w) A (.forLoop (.Name (N.slots.getD x default) xp) (.ref I) (b.back N) [] env) R s := by
  refine codeAny_forLoop_any (I := fun n s1 => ∃ i β1 H1 T1 m1 h1 o1, n + i = vs.length ∧ s1 = { s with heap := H1, toks := T1 } ∧ T₀ ≤ T1 ∧ ExtF A₀ β₀ H₀ β1 H1 ∧ Pre β₁ β1 ∧ I ∉ β1 ∧ Gd C.w C.L C.G β1 T1 h1 H1 ∧ Frm C.L C.G N β1 T1 m1 A₀ H1 ∧ H1.get? I = some o1 ∧ St i o1 ∧ mfor S chk x b (vs.drop i) m1 h1 = some (f, m', h')) ?_ vs.length
    ⟨0, β, s.heap, s.toks, m, h, o, rfl, rfl, t0, x0, hpre, hI, G, Fm, ho, hst, by simpa using hs⟩
  rintro n _ ⟨i, β1, H1, T1, m1, h1, o1, hn, rfl, t1, x1, p1, hI1, g1, f1, ho1, hst1, e⟩
  rcases Nat.lt_or_ge i vs.length with hlt | hge
  · have hv : vs[i]? = some vs[i] := List.getElem?_eq_getElem hlt
    rw [List.drop_eq_getElem_cons hlt] at e
    unfold mfor at e
    split at e
    · rename_i hc
      refine hit.item i vs[i] { s with heap := H1, toks := T1 } β1 h1 o1 _ _ hv p1 g1 hc ho1 hst1 fun y H2 T2 o2 t2 ho2 hst2 hk r2 => ?_
      have g2 := (g1.toks t2).but hI1 hG hk
      have f2 := (f1.but hne hk).toks t2
      have x2 := x1.butI hI0 hk
      show wpAny _ _ (letOwnedTupleGo _ _ _) _ _ _
      unfold letOwnedTupleGo
      refine wpAny_pure ?_
      refine assign_Name ?_
      refine store_sound (s := { s with heap := H2, toks := T2 }) V₀ okx g2 f2 r2 fun H3 T3 t3 x3 g3 f3 => ?_
      have x3' : ExtF A₀ β₀ H₀ β1 H3 := x2.trans x3
      have ho3 : H3.get? I = some o2 := (x3.keep I o2 hI1 (Ne.symm hne) ho2).1
      obtain ⟨⟨fl, m4, h4⟩, e1, e⟩ := bind_some e
      refine ix b N sc env A₀ A _ m4 h1 h4 fl okb V₀ hA e1 { s with heap := H3, toks := T3 } β1 _ _ g3 f3 fun z β5 H5 T5 t5 x5 g5 f5 r5 => ?_
      have tt : T₀ ≤ T5 := Nat.le_trans t1 (Nat.le_trans t2 (Nat.le_trans t3 t5))
      have xx := x3'.trans x5
      have hI5 := x5.keep I o2 hI1 (Ne.symm hne) ho3
      have again : mfor S chk x b (vs.drop (i + 1)) m4 h4 = some (f, m', h') → ∃ m, m < n ∧ ∃ i β1 H1 T1 m1 h1 o1, m + i = vs.length ∧ ({ s with heap := H5, toks := T5 } : Shared) = { s with heap := H1, toks := T1 } ∧ T₀ ≤ T1 ∧ ExtF A₀ β₀ H₀ β1 H1 ∧ Pre β₁ β1 ∧ I ∉ β1 ∧ Gd C.w C.L C.G β1 T1 h1 H1 ∧ Frm C.L C.G N β1 T1 m1 A₀ H1 ∧ H1.get? I = some o1 ∧ St i o1 ∧ mfor S chk x b (vs.drop i) m1 h1 = some (f, m', h') :=
        fun e => ⟨n - 1, by omega, i + 1, β5, H5, T5, m4, h4, o2, by omega, rfl, tt, xx, p1.trans x5.pre, hI5.2, g5, f5, hI5.1, hst2, e⟩
      cases fl with
      | next => cases r5; exact again e
      | cont => cases r5; exact again e
      | brk => cases r5; cases e; exact pst .next β5 H5 T5 tt xx g5 f5 rfl
      | ret v => obtain ⟨y, rfl, r⟩ := r5; cases e; exact pst _ β5 H5 T5 tt xx g5 f5 ⟨y, rfl, r⟩
    · cases e
  · have hi : i = vs.length := by omega
    subst hi
    rw [List.drop_length] at e
    unfold mfor at e
    split at e
    · rename_i hc
      cases e
      refine hit.done { s with heap := H1, toks := T1 } β1 _ o1 _ _ p1 g1 hc ho1 hst1 fun H2 T2 t2 hk => ?_
      refine wpAny_execs_nil ?_
      exact pst .next β1 H2 T2 (Nat.le_trans t1 t2) (x1.butI hI0 hk) ((g1.toks t2).but hI1 hG hk) ((f1.but hne hk).toks t2) rfl
    · cases e
end
end Mine

end

section
open PySem PySem.Calls PyProof.Rows PySem.W
namespace Mine
section
variable {C : Cx} {N : Nm} {sc : Scope} {env : Env} {A₀ : Addr} {A : Around} {d : Nat} {m m' : M} {h h' : Hp} {f : Fl} {s : Shared} {β : List Addr} {Q : Flow → Shared → Prop} {E : Value → Shared → Prop} {S : Sm}

theorem All2.at {α β : Type} {R : α → β → Prop} {l : List α} {r : Array β} {i : Nat} {a : α} (h : All2 R l r.toList) (e : l[i]? = some a) : ∃ b, r[i]? = some b ∧ R a b := by
  obtain ⟨b, hb, hr⟩ := All2.get h e
  exact ⟨b, by simpa using hb, hr⟩

theorem itr_list {I l : Addr} {vs : List V} {chk : Hp → Bool} {β₀ : List Addr} (hA : A.handled = none)
    (hl : ∀ (T : Nat) (β : List Addr) (h : Hp) (H : Heap), Pre β₀ β → Gd C.w C.L C.G β T h H → chk h = true → ∃ items, H.IsList l items ∧ All2 (VR C.L β T) vs items.toList) :
    Itr C A I (fun i o => o.cls = .type "list_iterator" ∧ o.data = .fields #[.ref l, .int i 0]) vs chk β₀ where
  item := by
    intro i v s β h o Q E hv hp g hc ho hst k
    obtain ⟨items, q1, q2⟩ := hl _ _ _ _ hp g hc
    obtain ⟨x, hx, rx⟩ := All2.at q2 hv
    refine wpAny_pyNext_list_item (it := I) (l := l) (i := i) ⟨o, ho, hst⟩ q1 hx fun H' hit hs => ?_
    obtain ⟨o', ho', hst'⟩ := hit
    exact k x H' s.toks o' (Nat.le_refl _) ho' hst' (fun b q n e => (hs.2 b n).trans e) rx
  done := by
    intro s β h o Q E hp g hc ho hst k
    obtain ⟨items, q1, q2⟩ := hl _ _ _ _ hp g hc
    have hn : items[vs.length]? = none := Array.getElem?_eq_none (by simpa using Nat.le_of_eq q2.length.symm)
    refine wpAny_pyNext_list_end (it := I) (l := l) (i := vs.length) hA ⟨o, ho, hst⟩ q1 hn fun H' hs => ?_
    exact k H' s.toks (Nat.le_refl _) fun b q n e => hs b q n e

theorem itr_range {I : Addr} {n : Nat} {β₀ : List Addr} (hA : A.handled = none) :
    Itr C A I (fun i o => o = { cls := .type "range_iterator", dict := none, data := .fields #[rawInt (i : Int), rawInt ((n : Int) - i), rawInt 1], slots := #[] }) ((List.range n).map fun (i : Nat) => V.int (i : Int)) (fun _ => true) β₀ where
  item := by
    intro i v s β h o Q E hv hp g hc ho hst k
    subst hst
    rw [List.getElem?_map] at hv
    obtain ⟨j, hj, rfl⟩ := Option.map_eq_some_iff.mp hv
    have hlt : i < n := by
      rcases Nat.lt_or_ge i n with q | q
      · exact q
      · rw [List.getElem?_eq_none (by simpa using q)] at hj; cases hj
    rw [List.getElem?_range hlt] at hj
    cases hj
    refine wpAny_pyNext_range_item (it := I) (x := (i : Int)) (left := (n : Int) - i) (step := 1) ho (by omega) fun H' hit hs => ?_
    have e1 : (i : Int) + 1 = ((i + 1 : Nat) : Int) := by omega
    have e2 : (n : Int) - i - 1 = (n : Int) - ((i + 1 : Nat) : Int) := by omega
    rw [e1, e2] at hit
    exact k (.int i s.toks) H' (s.toks + 1) _ (Nat.le_succ _) hit rfl (fun b q n e => (hs.2 b n).trans e) ⟨_, rfl⟩
  done := by
    intro s β h o Q E hp g hc ho hst k
    subst hst
    refine wpAny_pyNext_range_end (it := I) hA ho (by simp) fun H' hs => ?_
    exact k H' s.toks (Nat.le_refl _) fun b q n e => hs b q n e

theorem itr_str {I : Addr} {l : List Nat} {t : Tok} {β₀ : List Addr} (ty : String) (hty : ty = "str_ascii_iterator" ∨ ty = "str_iterator") (hA : A.handled = none) :
    Itr C A I (fun i o => o.cls = .type ty ∧ o.data = .fields #[.str ⟨l.toArray⟩ t, .int i 0]) (l.map fun c => V.str [c]) (fun _ => true) β₀ where
  item := by
    intro i v s β h o Q E hv hp g hc ho hst k
    rw [List.getElem?_map] at hv
    obtain ⟨c, hj, rfl⟩ := Option.map_eq_some_iff.mp hv
    have hx : (⟨l.toArray⟩ : Str).cps[i]? = some c := by simpa using hj
    have hk : ∀ (H' : Heap), H'.IsStrIter I ty ⟨l.toArray⟩ t (i + 1) → Heap.SameBut I s.heap H' → Q (some (.str ⟨#[c]⟩ s.toks)) { s with heap := H', toks := s.toks + 1 } := by
      intro H' hit hs
      obtain ⟨o', ho', hst'⟩ := hit
      exact k _ H' (s.toks + 1) o' (Nat.le_succ _) ho' hst' (fun b q n e => (hs.2 b n).trans e) ⟨s.toks, rfl, g.pos, Nat.lt_succ_self _, by unfold LIM; simp⟩
    rcases hty with rfl | rfl
    · exact wpAny_pyNext_ascii_item ⟨o, ho, hst⟩ hx hk
    · exact wpAny_pyNext_wide_item ⟨o, ho, hst⟩ hx hk
  done := by
    intro s β h o Q E hp g hc ho hst k
    rw [List.length_map] at hst
    have hx : (⟨l.toArray⟩ : Str).cps[l.length]? = none := by simp
    rcases hty with rfl | rfl
    · exact wpAny_pyNext_ascii_end hA ⟨o, ho, hst⟩ hx fun H' hs => k H' s.toks (Nat.le_refl _) fun b q n e => hs b q n e
    · exact wpAny_pyNext_wide_end hA ⟨o, ho, hst⟩ hx fun H' hs => k H' s.toks (Nat.le_refl _) fun b q n e => hs b q n e
end
end Mine

end

section
open PySem PySem.Calls PyProof.Rows PySem.W
namespace Mine
section
variable {prog : Program} {w : World} {A : Around} {s : Shared} {E : Value → Shared → Prop}

/-- the key that a dict's iterator gives next is the entry's own -/
theorem next_key {I a : Addr} {i ep : Nat} {ents : Array DictEntry} {e : DictEntry} {Q : Option Value → Shared → Prop} (hit : s.heap.IsKeyIter I a i ents.size ep) (hob : s.heap.get? a = some ⟨.type "dict", none, .dict ents ep, #[]⟩) (hx : ents[i]? = some e)
    (k : ∀ H', H'.IsKeyIter I a (i + 1) ents.size ep → Heap.SameBut I s.heap H' → Q (some e.key) { s with heap := H' }) : wpAny (model prog w) A (pyNext (.ref I)) Q E s := by
  have ty := hit.typeIs
  obtain ⟨o, ho, hc, hd⟩ := id hit
  have name : ∀ {R : String → Shared → Prop}, R "dict_keyiterator" s → ∀ {A' : Around} {E' : Value → Shared → Prop}, wpAny (model prog w) A' (typeNameOfWhole (.ref I)) R E' s := fun r => wpAny_typeNameOfWhole_keyiter ty r
  unfold pyNext
  refine wpAny_bind (wpAny_attempt (wpAny_callSpecial?_slot (name := Str.ofString "__next__") ty F.slot_dict_keyiterator_next
    (wpAny_call_entry F.slot_dict_keyiterator_next ty F.entry_dict_keyiterator_next ?_ (F.args_dict_keyiterator_next_1 _))))
  refine wpAny_bind (wpAny_pure (wpAny_bind (wpAny_bind (wpAny_bind (name (wpAny_pure ?_))))))
  refine wpAny_bind (wpAny_fieldsOf ho hd ?_)
  simp only [show Builtin.Dict_items.ownsTuple "dict_keyiterator" = false from by decide, Bool.false_eq_true, if_false]
  show wpAny _ _ (if (Value.ref a == Value.none) = true then _ else _) _ _ s
  rw [if_neg (show ¬ ((Value.ref a == Value.none) = true) from Bool.false_ne_true)]
  refine wpAny_bind (wpAny_pure (wpAny_bind (wpAny_dictEntries hob rfl ?_)))
  rw [if_neg (by simp)]
  refine wpAny_bind (wpAny_pure (wpAny_bind (wpAny_dictEpoch hob rfl ?_)))
  rw [if_neg (by simp)]
  refine wpAny_pure ?_
  simp only [show ¬ ((i : Int) < 0) from by omega, if_false, Int.toNat_natCast, hx]
  refine wpAny_bind (wpAny_bind (name (wpAny_pure ?_)))
  refine wpAny_bind (wpAny_isOneOf_keyiter ty ?_)
  show wpAny _ _ (setField (.ref I) 1 (rawInt ((i : Int) + 1)) >>= _) _ _ s
  refine wpAny_bind (wpAny_setField ho hd (by simp) ?_)
  have hit2 : (s.heap.update I (Obj.mapFields (·.setIfInBounds 1 (rawInt ((i : Int) + 1))))).IsKeyIter I a (i + 1) ents.size ep :=
    ⟨_, Heap.get?_update_self _ ho (Obj.isFreed_of_fields (Obj.data_mapFields hd _)), (Obj.cls_mapFields ..).trans hc, by rw [Obj.data_mapFields hd]; simp [rawInt]⟩
  refine wpAny_bind (wpAny_holding (wpAny_bind (wpAny_isOneOf_keyiter (s := { s with heap := s.heap.update I (Obj.mapFields (·.setIfInBounds 1 (rawInt ((i : Int) + 1)))) }) hit2.typeIs ?_)))
  show wpAny _ _ (pure e.key) _ _ _
  exact wpAny_pure (wpAny_pure ⟨_, rfl, wpAny_pure (k _ hit2 (Heap.SameBut.update ..))⟩)
end

section
variable {C : Cx} {N : Nm} {sc : Scope} {env : Env} {A₀ : Addr} {A : Around} {d : Nat} {m m' : M} {h h' : Hp} {f : Fl} {s : Shared} {β : List Addr} {Q : Flow → Shared → Prop} {E : Value → Shared → Prop} {S : Sm}

/-- an entry list as the kit's pairs -/
theorem dictAt_of {T : Nat} {H : Heap} {a : Addr} {ents : Array DictEntry} {ep : Nat} {rep : Bool} {es : List (List Nat × V)} (hob : H.get? a = some ⟨.type "dict", none, .dict ents ep, #[]⟩) (al : All2 (ER C.w C.L β T rep) es ents.toList) (nd : (es.map (·.1)).Nodup) :
    ∃ kvs : List (Str × Value), H.DictAt (strKind C.prog C.w) a kvs ep ∧ kvs.length = es.length := by
  have key : ∀ {es : List (List Nat × V)} {l : List DictEntry}, All2 (ER C.w C.L β T rep) es l → ∃ kvs : List (Str × Value), Pairs (strKind C.prog C.w) l kvs ∧ kvs.map (·.1) = es.map fun e => (⟨e.1.toArray⟩ : Str) := by
    intro es
    induction es with
    | nil => intro l al; cases l with | nil => exact ⟨[], .nil, rfl⟩ | cons => exact al.elim
    | cons e es ih =>
      intro l al
      cases l with
      | nil => exact al.elim
      | cons q l =>
        obtain ⟨kvs, h1, h2⟩ := ih al.2
        obtain ⟨t, h3, _⟩ := al.1
        refine ⟨(⟨e.1.toArray⟩, q.val) :: kvs, .cons (by rw [h3]; exact beq_self_eq_true _) rfl h1, by simp [h2]⟩
  obtain ⟨kvs, h1, h2⟩ := key al
  refine ⟨kvs, ⟨_, ents, hob, ⟨rfl, rfl, rfl⟩, rfl, fun e he => keys_dict al e (Array.mem_toList_iff.mpr he), h1, ?_⟩, by simpa using congrArg List.length h2⟩
  rw [h2]
  have : (es.map fun e => (⟨e.1.toArray⟩ : Str)) = (es.map (·.1)).map fun k => (⟨k.toArray⟩ : Str) := by simp
  rw [this]
  refine List.Pairwise.map _ (fun a b hab e => hab ?_) nd
  have := congrArg (fun x : Str => x.cps.toList) e
  simpa using this

theorem itr_dict {I : Addr} {k r : Nat} {a : Addr} {rep : Bool} {ep : Nat} {es : List (List Nat × V)} {β₀ : List Addr} (hA : A.handled = none) (ha : β₀[k]? = some a) :
    Itr C A I (fun i o => o.cls = .type "dict_keyiterator" ∧ o.data = .fields #[.ref a, .int i 0, .int (es.length : Nat) 0, .int ep 0]) (es.map fun e => V.str e.1) (fun h' => decide (h'[k]? = some (.dict rep ep es))) β₀ where
  item := by
    intro i v s β h o Q E hv hp g hc ho hst kk
    rw [List.getElem?_map] at hv
    obtain ⟨e, he, rfl⟩ := Option.map_eq_some_iff.mp hv
    obtain ⟨ob, hob, ents, rfl, al, nd, le⟩ := g.objs k _ a (of_decide_eq_true hc) (hp.get ha)
    have hz : ents.size = es.length := by have := al.length; rw [this]; simp
    obtain ⟨en, hen, t, h1, h2, h3, h4, h5, h6, h7⟩ := All2.at al he
    refine next_key (I := I) (a := a) (i := i) (ep := ep) (ents := ents) ⟨o, ho, hst.1, by rw [hz]; exact hst.2⟩ hob hen fun H' hit hs => ?_
    obtain ⟨o', ho', hc', hd'⟩ := hit
    refine kk _ H' s.toks o' (Nat.le_refl _) ho' ⟨hc', by rw [hz] at hd'; exact hd'⟩ (fun b q n e => (hs.2 b n).trans e) ?_
    rw [h1]
    exact ⟨t, rfl, h4, h5, h6⟩
  done := by
    intro s β h o Q E hp g hc ho hst kk
    obtain ⟨ob, hob, ents, rfl, al, nd, le⟩ := g.objs k _ a (of_decide_eq_true hc) (hp.get ha)
    obtain ⟨kvs, q1, q2⟩ := dictAt_of (C := C) hob al nd
    rw [List.length_map] at hst
    refine wpAny_pyNext_dict_end (it := I) (d := a) (i := es.length) (ep := ep) (kvs := kvs) hA ⟨o, ho, hst.1, by rw [q2]; exact hst.2⟩ q1 (List.getElem?_eq_none (by omega)) fun H' hs => ?_
    exact kk H' s.toks (Nat.le_refl _) fun b q n e => hs b q n e
end
end Mine

end

section
open PySem PySem.Calls PyProof.Rows PySem.W
namespace Mine
section
variable {C : Cx} {N : Nm} {sc : Scope} {env : Env} {A₀ : Addr} {A : Around} {d : Nat} {m m' : M} {h h' : Hp} {f : Fl} {s : Shared} {β : List Addr} {E : Value → Shared → Prop} {S : Sm}

theorem notSet {N : Nm} {x : Value} : ∀ e : ME, foldedSetIterable (e.back N) env x = pure x := by
  intro e
  cases e <;> first | rfl | (rename_i sp ks vs p; cases sp <;> rfl)

theorem Gd.notIn {T T' : Nat} {H0 H1 : Heap} {β1 : List Addr} (x : Ext β H0 β1 H1) (g1 : Gd C.w C.L C.G β1 T h H1) : H0.get? H1.objs.size = none := by
  cases e : H0.get? H1.objs.size with
  | none => rfl
  | some o =>
    by_cases hm : H1.objs.size ∈ β
    · exact absurd (x.pre.mem hm) g1.fresh.1
    · exact absurd (Heap.lt_size (x.keep _ o hm e).1) (Nat.lt_irrefl _)

theorem iter_sound {it : ME} {vs : List V} {chk : Hp → Bool} {Q : Value → Shared → Prop} (ok0 : C.Ok) (ih : SEv C S d) (V₀ : EnvOk C N sc env A₀) (hA : AOk A d) (ok : okIt1 N sc it = true) (hs : iter1 C.X S it m h = some (vs, chk, h')) (G : Gd C.w C.L C.G β s.toks h s.heap) (Fm : Frm C.L C.G N β s.toks m A₀ s.heap)
    (k : ∀ I o St β1 H1 T1, s.toks ≤ T1 → I ∉ β1 → C.G.get? I = none → A₀ ≠ I → s.heap.get? I = none → Ext β s.heap β1 H1 → Gd C.w C.L C.G β1 T1 h' H1 → Frm C.L C.G N β1 T1 m A₀ H1 → H1.get? I = some o → St 0 o → Itr C A I St vs chk β1 → Q (.ref I) { s with heap := H1, toks := T1 }) :
    wpAny (model C.prog C.w) A (eval (it.back N) env) (fun x s₁ => wpAny (model C.prog C.w) A (pyIter x) Q E s₁) E s := by
  have fin : ∀ (T2 : Nat) (H2 : Heap) (β1 : List Addr), s.toks ≤ T2 → Ext β s.heap β1 H2 → Gd C.w C.L C.G β1 T2 h' H2 → ∀ (ob : Obj) (St : Nat → Obj → Prop), ob.isFreed = false → St 0 ob → Itr C A H2.objs.size St vs chk β1 → Q (.ref H2.objs.size) { s with heap := H2.push ob, toks := T2 } := by
    intro T2 H2 β1 t2 x2 g2 ob St hf h0 hit
    have f2 := Fm.ext x2 t2
    have x3 := x2.trans (Ext.grow (β := β1) (get?_push_keep ob))
    refine k _ ob St β1 _ T2 t2 g2.fresh.1 g2.fresh.2 ?_ (Gd.notIn (T' := 0) x2 g2) x3 (g2.grow (get?_push_keep ob)) (Fm.ext x3 t2) (Heap.get?_push_size _ hf) h0 hit
    rintro rfl
    obtain ⟨_, ⟨o, _, _, ho, _⟩, _⟩ := f2.ns
    exact absurd (Heap.lt_size ho) (Nat.lt_irrefl _)
  have plain : it.ok N sc = true → ((S.ev it m h).bind fun ((a, h) : V × Hp) => (match a with
    | .str l => some (l.map fun c => V.str [c], fun (_ : Hp) => true, h)
    | .ext j => (match C.X[j]? with
      | some (.list vs) => some (vs, fun (_ : Hp) => true, h)
      | _ => .none)
    | .ref k => (match h[k]? with
      | some (.list vs) => some (vs, fun (h' : Hp) => decide (h'[k]? = some (.list vs)), h)
      | some (.dict r ep es) => some (es.map fun e => .str e.1, fun (h' : Hp) => decide (h'[k]? = some (.dict r ep es)), h)
      | _ => .none)
    | _ => .none : Option (List V × (Hp → Bool) × Hp))) = some (vs, chk, h') → wpAny (model C.prog C.w) A (eval (it.back N) env) (fun x s₁ => wpAny (model C.prog C.w) A (pyIter x) Q E s₁) E s := by
    intro ok hs
    obtain ⟨⟨a, h1⟩, e1, hs⟩ := bind_some hs
    refine ih it N sc env A₀ A m h h1 a ok V₀ hA e1 s β _ E G Fm fun x β1 H1 T1 t1 x1 g1 r1 => ?_
    dsimp only at hs
    split at hs
    · rename_i l
      cases hs
      obtain ⟨t, rfl, t0, t9, hl⟩ := r1
      cases ha : (⟨l.toArray⟩ : Str).cps.all (· < 128)
      · exact wpAny_pyIter_wide ha (fin T1 H1 β1 t1 x1 g1 _ (fun i o => o.cls = .type "str_iterator" ∧ o.data = .fields #[.str ⟨l.toArray⟩ t, .int i 0]) rfl ⟨rfl, rfl⟩ (itr_str "str_iterator" (.inr rfl) hA.hd))
      · exact wpAny_pyIter_ascii ha (fin T1 H1 β1 t1 x1 g1 _ (fun i o => o.cls = .type "str_ascii_iterator" ∧ o.data = .fields #[.str ⟨l.toArray⟩ t, .int i 0]) rfl ⟨rfl, rfl⟩ (itr_str "str_ascii_iterator" (.inl rfl) hA.hd))
    · rename_i j
      split at hs
      · rename_i vs' hx
        cases hs
        obtain ⟨a, ob, rfl, hob, r, _⟩ := obj_at ok0 g1 (v := .ext j) hx r1
        obtain ⟨items, q1, q2, _⟩ := OR.isList hob r
        obtain ⟨a2, ob2, ha2, hob2, r2, _⟩ := ok0.ext j _ hx
        obtain ⟨a3, ha3, e3⟩ := r1
        cases e3
        rw [ha3] at ha2
        cases ha2
        refine wpAny_pyIter_list q1 (fin T1 H1 β1 t1 x1 g1 _ _ rfl ⟨rfl, rfl⟩ (itr_list (l := a) hA.hd fun T β' h'' H hp g hc => ?_))
        obtain ⟨items, q3, q4, _⟩ := OR.isList (g.base _ _ hob2) r2
        exact ⟨items, q3, q4.mono fun _ _ => VR.mono ⟨β', rfl⟩ (Nat.zero_le _)⟩
      · cases hs
    · rename_i kk
      split at hs
      · rename_i vs' hx
        cases hs
        obtain ⟨a, ha, rfl⟩ := r1
        obtain ⟨ob, hob, r⟩ := g1.objs kk _ a hx ha
        obtain ⟨items, q1, q2, _⟩ := OR.isList hob r
        refine wpAny_pyIter_list q1 (fin T1 H1 β1 t1 x1 g1 _ _ rfl ⟨rfl, rfl⟩ (itr_list (l := a) hA.hd fun T β' h'' H hp g hc => ?_))
        obtain ⟨ob, hob, r⟩ := g.objs kk _ a (of_decide_eq_true hc) (hp.get ha)
        obtain ⟨items, q1, q2, _⟩ := OR.isList hob r
        exact ⟨items, q1, q2⟩
      · rename_i rr ep es hx
        cases hs
        obtain ⟨a, ha, rfl⟩ := r1
        obtain ⟨ob, hob, ents, rfl, al, nd, le⟩ := g1.objs kk _ a hx ha
        obtain ⟨kvs, q1, q2⟩ := dictAt_of (C := C) hob al nd
        refine wpAny_pyIter_dict (kvs := kvs) (ep := ep) (g1.big a (List.mem_of_getElem? ha)) q1 (fin T1 H1 β1 t1 x1 g1 _ _ rfl ⟨rfl, by rw [q2]; rfl⟩ (itr_dict (r := 0) hA.hd ha))
      · cases hs
    · cases hs
  unfold iter1 at hs
  split at hs
  · rename_i np e p
    simp only [okIt1, Bool.and_eq_true] at ok
    obtain ⟨⟨a, h1⟩, e1, hs⟩ := bind_some hs
    dsimp only at hs
    split at hs
    · rename_i n
      split at hs
      · rename_i hn
        cases hs
        show wpAny _ _ (eval (.Call (.Name (Str.ofString Bi.range.name) np) ((MEs.cons e .nil).back N) [] p) env) _ E s
        refine Call_ (bname ok0 V₀ ok.1 G ?_)
        rw [trees]
        refine PyProof.Rows.callWith_type rfl (evalArgs_plain (spliced_cons ?_))
        refine ih e N sc env A₀ A m h _ (.int n) ok.2 V₀ hA e1 s β _ E G Fm fun x β1 H1 T1 t1 x1 g1 r1 => ?_
        obtain ⟨t, rfl⟩ := r1
        refine spliced_nil ?_
        refine call_range_1 ?_
        refine wpAny_pyIter_range (IsRange.new ..) (small_one (by decide) (by decide) (by unfold LIM at hn; omega) (by unfold LIM at hn; omega)) ?_
        have hsz : Builtin.Range.rangeSize 0 n 1 = (n.toNat : Int) := by rw [rangeSize_one]; split <;> omega
        rw [hsz]
        have hk := get?_push_keep (H := H1) { cls := .type "range", data := .fields #[.int 0 T1, .int n t, .int 1 (T1 + 1)] }
        exact fin (T1 + 1 + 1) _ β1 (Nat.le_trans t1 (Nat.le_trans (Nat.le_succ _) (Nat.le_succ _))) (x1.trans (Ext.grow hk)) ((g1.toks (Nat.le_trans (Nat.le_succ _) (Nat.le_succ _))).grow hk) _ _ rfl (by simp [rawInt]) (itr_range (n := n.toNat) hA.hd)
      · cases hs
    · cases hs
  · rename_i hne
    refine plain ?_ hs
    unfold okIt1 at ok
    split at ok
    · exact absurd rfl (hne _ _ _)
    · exact ok

theorem ex_for1 {x : Nat} {xp p : Pos} {it : ME} {b : MSs} {Q : Flow → Shared → Prop} (ok0 : C.Ok) (ih : SEv C S d) (ix : SEx C S d) (V₀ : EnvOk C N sc env A₀) (hA : AOk A d) (ok : MS.ok N sc (.for1 x xp it b p) = true) (hs : stepS C.X S (.for1 x xp it b p) m h = some (f, m', h')) (G : Gd C.w C.L C.G β s.toks h s.heap) (Fm : Frm C.L C.G N β s.toks m A₀ s.heap) (pst : PstX C N A₀ s β f m' h' Q) :
    wpAny (model C.prog C.w) A (exec ((MS.for1 x xp it b p).back N) env) Q E s := by
  replace ok := (show (_ && _) = true from ok)
  simp only [Bool.and_eq_true] at ok
  obtain ⟨⟨vs, chk, h1⟩, e1, hs⟩ := bind_some hs
  refine wpAny_For ?_ (fun _ => notSet it)
  refine iter_sound ok0 ih V₀ hA ok.1.2 e1 G Fm fun I o St β1 H1 T1 t1 hI hG hne hI0 x1 g1 f1 ho hst hit => ?_
  exact for_loop (s := { s with heap := H1, toks := T1 }) (T₀ := s.toks) (β₀ := β) (H₀ := s.heap) ix V₀ hA ok.1.1 ok.2 hit (Pre.refl _) hI hG hne hI0 x1.toF t1 g1 f1 ho hst hs pst
end
end Mine

end

section
open PySem PySem.Calls PyProof.Rows PySem.W
namespace Mine
section
variable {prog : Program} {w : World} {A : Around} {s : Shared} {E : Value → Shared → Prop}

/-- the pair that a dict's items give next is the entry's own key and value -/
theorem next_pair {I a : Addr} {i ep : Nat} {ents : Array DictEntry} {e : DictEntry} {ok ov : Value} {Q : Option Value → Shared → Prop} (hit : IsItemIter s.heap I a i ents.size ep ok ov) (hob : s.heap.get? a = some ⟨.type "dict", none, .dict ents ep, #[]⟩) (hx : ents[i]? = some e)
    (k : ∀ H', IsItemIterOut H' I a (i + 1) ents.size ep e.key e.val s.heap.objs.size → H'.get? s.heap.objs.size = some { cls := .type "tuple", data := .seq #[e.key, e.val] } →
      (∀ b o, b ≠ I → s.heap.get? b = some o → H'.get? b = some o) → Q (some (.ref s.heap.objs.size)) { s with heap := H' }) : wpAny (model prog w) A (pyNext (.ref I)) Q E s := by
  have ty : s.TypeIs (.ref I) "dict_itemiterator" := ⟨_, hit, rfl⟩
  have name : ∀ {R : String → Shared → Prop}, R "dict_itemiterator" s → ∀ {A' : Around} {E' : Value → Shared → Prop}, wpAny (model prog w) A' (typeNameOfWhole (.ref I)) R E' s := fun r => wpAny_typeNameOfWhole_itemiter ty r
  unfold pyNext
  refine wpAny_bind (wpAny_attempt (wpAny_callSpecial?_slot (name := Str.ofString "__next__") ty F.slot_dict_itemiterator_next
    (wpAny_call_entry F.slot_dict_itemiterator_next ty F.entry_dict_itemiterator_next ?_ (F.args_dict_itemiterator_next_1 _))))
  refine wpAny_bind (wpAny_pure (wpAny_bind (wpAny_bind (wpAny_bind (name (wpAny_pure ?_))))))
  refine wpAny_bind (wpAny_fieldsOf hit rfl ?_)
  simp only [show Builtin.Dict_items.ownsTuple "dict_itemiterator" = true from by decide, if_true]
  show wpAny _ _ (if (Value.ref a == Value.none) = true then _ else _) _ _ s
  rw [if_neg (show ¬ ((Value.ref a == Value.none) = true) from Bool.false_ne_true)]
  refine wpAny_bind (wpAny_pure (wpAny_bind (wpAny_dictEntries hob rfl ?_)))
  rw [if_neg (by simp)]
  refine wpAny_bind (wpAny_pure (wpAny_bind (wpAny_dictEpoch hob rfl ?_)))
  rw [if_neg (by simp)]
  refine wpAny_pure ?_
  simp only [show ¬ ((i : Int) < 0) from by omega, if_false, Int.toNat_natCast, hx]
  refine wpAny_bind (wpAny_bind (name (wpAny_pure ?_)))
  refine wpAny_bind (wpAny_isOneOf_itemiter ty ?_)
  show wpAny _ _ (setField (.ref I) 3 (rawInt ((i : Int) + 1)) >>= _) _ _ s
  refine wpAny_bind (wpAny_setField_rec hit (by simp) fun H1 q1 s1 => ?_)
  have e1 : (i : Int) + 1 = ((i + 1 : Nat) : Int) := by omega
  have i1 : IsItemIter H1 I a (i + 1) ents.size ep ok ov := by unfold IsItemIter; rw [← e1]; simpa [rawInt] using q1
  have z1 : H1.objs.size = s.heap.objs.size := s1.1
  have t1 : Shared.TypeIs { s with heap := H1 } (.ref I) "dict_itemiterator" := ⟨_, i1, rfl⟩
  refine wpAny_bind (wpAny_holding (wpAny_bind (wpAny_isOneOf_itemiter t1 (wpAny_bind (wpAny_isOneOf_itemiter t1 ?_)))))
  show wpAny _ _ (Builtin.Dict_items.pairFromOwner (.ref I) 6 e.key e.val) _ _ { s with heap := H1 }
  unfold Builtin.Dict_items.pairFromOwner
  refine wpAny_bind (wpAny_newTuple ?_)
  have i2 : IsItemIter (H1.push { cls := .type "tuple", data := .seq #[e.key, e.val] }) I a (i + 1) ents.size ep ok ov := Heap.get?_push_of_some _ i1
  have p2 : (H1.push { cls := .type "tuple", data := .seq #[e.key, e.val] }).get? s.heap.objs.size = some { cls := .type "tuple", data := .seq #[e.key, e.val] } := by rw [← z1]; exact Heap.get?_push_size _ rfl
  have k2 : ∀ b o, b ≠ I → s.heap.get? b = some o → (H1.push { cls := .type "tuple", data := .seq #[e.key, e.val] }).get? b = some o := fun b o n x => Heap.get?_push_of_some _ ((s1.2 b n).trans x)
  have lt : s.heap.objs.size ≠ I := Nat.ne_of_gt (Heap.lt_size hit)
  show wpAny _ _ (Builtin.Dict_items.ownedTupleIsFree (.ref I) >>= _) _ _ { s with heap := H1.push { cls := .type "tuple", data := .seq #[e.key, e.val] } }
  rw [show ({ s with heap := H1 } : Shared).heap.objs.size = s.heap.objs.size from z1]
  generalize H1.push { cls := .type "tuple", data := .seq #[e.key, e.val] } = H2 at i2 p2 k2 ⊢
  unfold Builtin.Dict_items.ownedTupleIsFree
  refine wpAny_bind (wpAny_bind (wpAny_field (s := { s with heap := H2 }) i2 rfl (x := .none) rfl (wpAny_pure ?_)))
  simp only [if_true]
  refine wpAny_bind (wpAny_field (s := { s with heap := H2 }) i2 rfl (x := ok) rfl (wpAny_bind (wpAny_field (s := { s with heap := H2 }) i2 rfl (x := ov) rfl ?_)))
  refine wpAny_bind (wpAny_setField_rec (s := { s with heap := H2 }) i2 (by simp) fun H3 i3 s3 => wpAny_bind (wpAny_setField_rec (s := { s with heap := H3 }) i3 (by simp) fun H4 i4 s4 => wpAny_bind (wpAny_setField_rec (s := { s with heap := H4 }) i4 (by simp) fun H5 i5 s5 =>
    wpAny_bind (wpAny_setField_rec (s := { s with heap := H5 }) i5 (by simp) fun H6 i6 s6 => ?_))))
  have same : ∀ b, b ≠ I → H6.get? b = H2.get? b := fun b n => (s6.2 b n).trans ((s5.2 b n).trans ((s4.2 b n).trans (s3.2 b n)))
  refine wpAny_bind (wpAny_letGo (wpAny_pure (wpAny_pure ⟨_, rfl, wpAny_pure (k H6 ?_ ((same _ lt).trans p2) fun b o n x => (same b n).trans (k2 b o n x))⟩)))
  exact i6
end
end Mine

end

section
open PySem PySem.Calls PyProof.Rows PySem.W
namespace Mine
section
variable {C : Cx} {N : Nm} {sc : Scope} {env : Env} {A₀ : Addr} {A : Around} {d : Nat} {m m' : M} {h h' : Hp} {f : Fl} {s : Shared} {β : List Addr} {E : Value → Shared → Prop} {S : Sm}

theorem slot_ne {l : List Str} {i j : Nat} (nd : l.Nodup) (hi : i < l.length) (hj : j < l.length) (hij : i ≠ j) : l.getD i default ≠ l.getD j default := by
  rw [List.getD_eq_getElem?_getD, List.getD_eq_getElem?_getD, List.getElem?_eq_getElem hi, List.getElem?_eq_getElem hj]
  intro e
  exact hij ((List.getElem?_inj hi nd).mp (by rw [List.getElem?_eq_getElem hi, List.getElem?_eq_getElem hj]; exact congrArg some e))

/-- the frame with its names as a map -/
structure FrmF (L : Pl) (G : Heap) (N : Nm) (β : List Addr) (T : Nat) (m : M) (A : Addr) (H : Heap) (fm : Str → Option Value) : Prop where
  ns : H.Ns A fm
  lr : LR L β T N.slots m fm
  out : A ∉ β
  new : G.get? A = none

theorem storeF {i : Nat} {x : Value} {v : V} {fm : Str → Option Value} {Q : Unit → Shared → Prop} (V₀ : EnvOk C N sc env A₀) (ok : okSlot N sc i = true) (G : Gd C.w C.L C.G β s.toks h s.heap) (Fm : FrmF C.L C.G N β s.toks m A₀ s.heap fm) (r : VR C.L β s.toks v x)
    (k : ∀ H', ExtF A₀ β s.heap β H' → Gd C.w C.L C.G β (s.toks + 1) h H' → FrmF C.L C.G N β (s.toks + 1) (m.set i (some v)) A₀ H' (fun z => if z = N.slots.getD i default then some x else fm z) → (∀ b q, b ≠ A₀ → s.heap.get? b = some q → H'.get? b = some q) → Q () { s with heap := H', toks := s.toks + 1 }) :
    wpAny (model C.prog C.w) A (storeName env (N.slots.getD i default) x) Q E s := by
  simp only [okSlot, Bool.and_eq_true, decide_eq_true_eq, beq_iff_eq] at ok
  obtain ⟨hn, l, out, new⟩ := Fm
  refine wpAny_storeName_local (by unfold Env.kindOf; rw [V₀.scp]; exact ok.2) (by rw [V₀.loc]; exact hn) (fun H' hn' hs' => ?_) (by rw [V₀.scp, V₀.kind]; rfl)
  rw [V₀.loc] at hn' hs'
  refine k H' ⟨Pre.refl _, fun b o n m e => ⟨(hs'.2 b m).trans e, n⟩⟩ ((G.toks (Nat.le_succ _)).but out new fun b o n e => (hs'.2 b n).trans e) ⟨hn', ?_, out, new⟩ fun b q n e => (hs'.2 b n).trans e
  exact (l.mono (Pre.refl _) (Nat.le_succ _)).set (r.mono (Pre.refl _) (Nat.le_succ _)) V₀.nd ok.1

theorem loadF {i : Nat} {p : Pos} {y : Value} {fm : Str → Option Value} {Q : Value → Shared → Prop} (V₀ : EnvOk C N sc env A₀) (ok : okSlot N sc i = true) (hd : (N.slots.getD i default == ("__debug__" : Str)) = false) (hn : s.heap.Ns A₀ fm) (hy : fm (N.slots.getD i default) = some y) (k : Q y s) :
    wpAny (model C.prog C.w) A (eval (.Name (N.slots.getD i default) p) env) Q E s := by
  simp only [okSlot, Bool.and_eq_true, decide_eq_true_eq, beq_iff_eq] at ok
  exact wpAny_Name (wpAny_loadName_local (by rw [V₀.scp]; exact V₀.kind) (by unfold Env.kindOf; rw [V₀.scp]; exact ok.2) (by rw [V₀.loc]; exact hn) hy k) hd

theorem FrmF.but {T : Nat} {H H' : Heap} {I : Addr} {fm : Str → Option Value} (Fm : FrmF C.L C.G N β T m A₀ H fm) (hne : A₀ ≠ I) (hk : ∀ b q, b ≠ I → H.get? b = some q → H'.get? b = some q) : FrmF C.L C.G N β T m A₀ H' fm := by
  obtain ⟨⟨o, es, ep, ho, r⟩, l, out, new⟩ := Fm
  exact ⟨⟨o, es, ep, hk _ _ hne ho, r⟩, l, out, new⟩

/-- the body of the replace loop -/
theorem rep_body {si ki vi : Nat} {tp2 sp mp k2 v2 rp ap2 : Pos} {k l v : List Nat} {t u : Tok} {yl : Value} {fm : Str → Option Value} {Q : Flow → Shared → Prop} (ok0 : C.Ok) (V₀ : EnvOk C N sc env A₀) (oks : okSlot N sc si = true) (okk : okSlot N sc ki = true) (okv : okSlot N sc vi = true)
    (hl2 : (mp.endLine == rp.line) = true) (hd1 : (N.slots.getD si default == ("__debug__" : Str)) = false) (hd2 : (N.slots.getD ki default == ("__debug__" : Str)) = false) (hd3 : (N.slots.getD vi default == ("__debug__" : Str)) = false)
    (G : Gd C.w C.L C.G β s.toks h s.heap) (f6 : FrmF C.L C.G N β s.toks m A₀ s.heap fm) (ls : fm (N.slots.getD si default) = some yl) (lk : fm (N.slots.getD ki default) = some (.str ⟨k.toArray⟩ t)) (lv : fm (N.slots.getD vi default) = some (.str ⟨v.toArray⟩ u))
    (rl : VR C.L β s.toks (.str l) yl) (h4 : 0 < t) (u0 : 0 < u) (hne2 : t ≠ u) (hk0 : k ≠ []) (hlen : l.length + (l.length + 1) * v.length ≤ LIM)
    (kk : ∀ β8 H8 H9 T9, s.toks ≤ T9 → Ext β s.heap β8 H8 → ExtF A₀ β8 H8 β8 H9 → Gd C.w C.L C.G β8 T9 h H9 → Frm C.L C.G N β8 T9 (m.set si (some (.str (replace k v l)))) A₀ H9 → Q .next { s with heap := H9, toks := T9 }) :
    wpAny (model C.prog C.w) A (execs [.Assign [.Name (N.slots.getD si default) tp2] (.Call (.Attribute (.Name (N.slots.getD si default) sp) (Str.ofString "replace") mp) [.Name (N.slots.getD ki default) k2, .Name (N.slots.getD vi default) v2] [] rp) ap2] env) Q E s := by
  refine wpAny_execs_cons ?_
  refine wpAny_Assign_Name ?_ (by rfl)
  refine wpAny_Call_method (T := "str") (id := "str.replace") (by rfl) (by rfl) hl2 F.plainAttrs_str F.slot_str_replace F.type_str_replace ?_
  refine loadF V₀ oks hd1 f6.ns ls ?_
  have hT : s.TypeIs yl "str" := by obtain ⟨t, rfl, _⟩ := rl; exact typeIs_str _ _ _
  refine ⟨hT, fun b hb => (by obtain ⟨t, rfl, _⟩ := rl; cases hb), ?_⟩
  refine withB (N := N) (as := .cons (.loc ki k2) (.cons (.loc vi v2) .nil)) ?_
  refine spliced_cons (loadF V₀ okk hd2 f6.ns lk (spliced_cons (loadF V₀ okv hd3 f6.ns lv (spliced_nil ?_))))
  refine rep_sound ok0 G rl h4 u0 hne2 hk0 hlen fun z β8 H8 T8 t8 x8 g8 r8 => ?_
  have f8 : Frm C.L C.G N β8 T8 m A₀ H8 := Frm.ext ⟨⟨_, f6.ns, f6.lr⟩, f6.out, f6.new⟩ x8 t8
  refine store_sound (s := { s with heap := H8, toks := T8 }) V₀ oks g8 f8 r8 fun H9 T9 t9 x9 g9 f9 => ?_
  exact wpAny_execs_nil (kk β8 H8 H9 T9 (Nat.le_trans t8 t9) x8 x9 g9 f9)

theorem ex_rep {si ki vi di : Nat} {kp vp tp dp ap cp tp2 sp mp k2 v2 rp ap2 p : Pos} {Q : Flow → Shared → Prop} (ok0 : C.Ok) (V₀ : EnvOk C N sc env A₀) (hA : AOk A d) (ok : MS.ok N sc (.rep si ki vi di kp vp tp dp ap cp tp2 sp mp k2 v2 rp ap2 p) = true)
    (hs : stepS C.X S (.rep si ki vi di kp vp tp dp ap cp tp2 sp mp k2 v2 rp ap2 p) m h = some (f, m', h')) (G : Gd C.w C.L C.G β s.toks h s.heap) (Fm : Frm C.L C.G N β s.toks m A₀ s.heap) (pst : PstX C N A₀ s β f m' h' Q) :
    wpAny (model C.prog C.w) A (exec ((MS.rep si ki vi di kp vp tp dp ap cp tp2 sp mp k2 v2 rp ap2 p).back N) env) Q E s := by
  replace ok := (show (_ && _) = true from ok)
  simp only [Bool.and_eq_true, decide_eq_true_eq, List.any_cons, List.any_nil, Bool.not_eq_true', Bool.or_eq_false_iff] at ok
  obtain ⟨⟨⟨⟨⟨⟨⟨⟨⟨oks, okk⟩, okv⟩, okd⟩, hkv⟩, hsk⟩, hsv⟩, hl1⟩, hl2⟩, hd1, hd2, hd3, hd4, _⟩ := ok
  have lens : si < N.slots.length ∧ ki < N.slots.length ∧ vi < N.slots.length := by
    simp only [okSlot, Bool.and_eq_true, decide_eq_true_eq] at oks okk okv
    exact ⟨oks.1, okk.1, okv.1⟩
  have nkv := slot_ne V₀.nd lens.2.1 lens.2.2 hkv
  have nsk := slot_ne V₀.nd lens.1 lens.2.1 hsk
  have nsv := slot_ne V₀.nd lens.1 lens.2.2 hsv
  obtain ⟨dv, e1, hs⟩ := bind_some hs
  obtain ⟨ep, es, hob, hs⟩ : ∃ ep es, obj C.X h dv = some (.dict true ep es) ∧ ((reps si ki vi es m).map fun m => (Fl.next, m, h)) = some (f, m', h') := by
    split at hs
    · rename_i ep es hh; exact ⟨ep, es, hh, hs⟩
    · cases hs
  obtain ⟨m2, e2, e3⟩ := map_some hs
  cases e3
  have Fm0 := Fm
  obtain ⟨⟨fm, hn, lr⟩, out, new⟩ := Fm0
  obtain ⟨y, hy, ry⟩ := lr.get e1
  obtain ⟨a, ob, rfl, ha, r, big0⟩ := obj_at ok0 G hob ry
  have big := big0 (fun vs e => by cases e)
  obtain ⟨ents, rfl, al, nd, le⟩ := r
  obtain ⟨kvs, q1, q2⟩ := dictAt_of (C := C) ha al nd
  show wpAny _ _ (exec (.For (.Tuple [.Name (N.slots.getD ki default) kp, .Name (N.slots.getD vi default) vp] 0 tp) (.Call (.Attribute (.Name (N.slots.getD di default) dp) (Str.ofString "items") ap) [] [] cp)
      [.Assign [.Name (N.slots.getD si default) tp2] (.Call (.Attribute (.Name (N.slots.getD si default) sp) (Str.ofString "replace") mp) [.Name (N.slots.getD ki default) k2, .Name (N.slots.getD vi default) v2] [] rp) ap2] [] p) env) _ _ _
  refine wpAny_For ?_ (fun _ => rfl)
  refine wpAny_Call_items (knd := strKind C.prog C.w) big q1.dictOf rfl hl1 (fun Q' k => loadF V₀ okd hd4 hn hy k) ?_
  refine wpAny_pyIter_items (knd := strKind C.prog C.w) (d := a) (kvs := kvs) (ep := ep) ⟨_, Heap.get?_push_size _ rfl, rfl, rfl⟩ (q1.push _) ?_
  have keep : ∀ (ob1 ob2 : Obj) b o, s.heap.get? b = some o → ((s.heap.push ob1).push ob2).get? b = some o := fun _ _ b o e => Heap.get?_push_of_some _ (Heap.get?_push_of_some _ e)
  have gI := (G.grow (get?_push_keep { cls := .type "dict_items", data := .fields #[.ref a] })).fresh
  show codeAny _ _ (.forLoop _ (.ref (s.heap.push { cls := .type "dict_items", data := .fields #[.ref a] }).objs.size) _ _ _) _ { s with heap := (s.heap.push { cls := .type "dict_items", data := .fields #[.ref a] }).push { cls := .type "dict_itemiterator", data := .fields #[.none, .bool false, .ref a, .int 0 0, .int kvs.length 0, .int ep 0, .none, .none] } }
  have k0 := keep { cls := .type "dict_items", data := .fields #[.ref a] } { cls := .type "dict_itemiterator", data := .fields #[.none, .bool false, .ref a, .int 0 0, .int kvs.length 0, .int ep 0, .none, .none] }
  have hI0 : s.heap.get? (s.heap.push { cls := .type "dict_items", data := .fields #[.ref a] }).objs.size = none := by
    cases e : s.heap.get? (s.heap.push { cls := .type "dict_items", data := .fields #[.ref a] }).objs.size with
    | none => rfl
    | some o => exact absurd (Heap.lt_size (Heap.get?_push_of_some _ e)) (Nat.lt_irrefl _)
  have hit0 : ((s.heap.push { cls := .type "dict_items", data := .fields #[.ref a] }).push { cls := .type "dict_itemiterator", data := .fields #[.none, .bool false, .ref a, .int 0 0, .int kvs.length 0, .int ep 0, .none, .none] }).get? (s.heap.push { cls := .type "dict_items", data := .fields #[.ref a] }).objs.size
      = some { cls := .type "dict_itemiterator", data := .fields #[.none, .bool false, .ref a, .int 0 0, .int kvs.length 0, .int ep 0, .none, .none] } := Heap.get?_push_size _ rfl
  generalize (s.heap.push { cls := .type "dict_items", data := .fields #[.ref a] }).push { cls := .type "dict_itemiterator", data := .fields #[.none, .bool false, .ref a, .int 0 0, .int kvs.length 0, .int ep 0, .none, .none] } = H0 at k0 hit0 ⊢
  generalize (s.heap.push { cls := .type "dict_items", data := .fields #[.ref a] }).objs.size = I at gI hI0 hit0 ⊢
  have hne : A₀ ≠ I := by
    rintro rfl
    obtain ⟨o, _, _, ho, _⟩ := hn
    rw [ho] at hI0; cases hI0
  refine codeAny_forLoop_any (I := fun n s1 => ∃ i β1 H1 T1 m1 ok ov, n + i = es.length ∧ s1 = { s with heap := H1, toks := T1 } ∧ s.toks ≤ T1 ∧ ExtF A₀ β s.heap β1 H1 ∧ I ∉ β1 ∧ Gd C.w C.L C.G β1 T1 h H1 ∧ Frm C.L C.G N β1 T1 m1 A₀ H1 ∧ IsItemIter H1 I a i kvs.length ep ok ov ∧ reps si ki vi (es.drop i) m1 = some m') ?_ es.length
    ⟨0, β, H0, s.toks, m, .none, .none, rfl, rfl, Nat.le_refl _, ⟨Pre.refl _, fun b o n _ e => ⟨k0 b o e, n⟩⟩, gI.1, G.grow k0, Fm.ext (Ext.grow k0) (Nat.le_refl _), hit0, by simpa using e2⟩
  rintro n _ ⟨i, β1, H1, T1, m1, ok, ov, hn, rfl, t1, x1, hI1, g1, f1, hit1, e⟩
  have ry1 : VR C.L β1 T1 dv (.ref a) := ry.mono x1.pre t1
  obtain ⟨a', ob1, ea, ha1, r1, _⟩ := obj_at ok0 g1 hob ry1
  cases ea
  obtain ⟨ents1, rfl, al1, nd1, le1⟩ := r1
  have hz : ents1.size = kvs.length := by rw [q2, al1.length]; simp
  rcases Nat.lt_or_ge i es.length with hlt | hge
  · have hv : es[i]? = some es[i] := List.getElem?_eq_getElem hlt
    rw [List.drop_eq_getElem_cons hlt] at e
    obtain ⟨en, hen, t, h1, h2, h3, h4, h5, h6, h7⟩ := All2.at al1 hv
    obtain ⟨k, v, l, hev, hl, hk0, hlen, e⟩ : ∃ k v l, es[i] = (k, V.str v) ∧ m1.getD si none = some (.str l) ∧ k ≠ [] ∧ l.length + (l.length + 1) * v.length ≤ LIM ∧ reps si ki vi (es.drop (i + 1)) (((m1.set ki (some (.str k))).set vi (some (.str v))).set si (some (.str (replace k v l)))) = some m' := by
      generalize es[i] = q at e
      obtain ⟨k, v⟩ := q
      cases v <;> try (simp [reps] at e; done)
      rename_i v
      unfold reps at e
      split at e
      · rename_i l hl
        split at e
        · rename_i hc
          exact ⟨k, v, l, rfl, hl, hc.1, hc.2, e⟩
        · cases e
      · cases e
    rw [hev] at h1 h2 h3 h6
    obtain ⟨u, hu, u0, u9, ul⟩ := h3
    have hne2 : t ≠ u := fun z => h7 rfl _ u hu z.symm
    have hnI : C.G.get? I = none := gI.2
    refine next_pair (s := { s with heap := H1, toks := T1 }) (I := I) (a := a) (i := i) (ep := ep) (ents := ents1) (by rw [hz]; exact hit1) ha1 hen fun H2 i2 tu2 k2' => ?_
    have g2 := g1.but hI1 hnI k2'
    obtain ⟨⟨fm1, hn1, lr1⟩, out1, new1⟩ := f1
    have f2 : FrmF C.L C.G N β1 T1 m1 A₀ H2 fm1 := FrmF.but ⟨hn1, lr1, out1, new1⟩ hne k2'
    have x2 := x1.butI hI0 k2'
    have htu : H1.objs.size ≠ I := Nat.ne_of_gt (Heap.lt_size hit1)
    refine wpAny_letOwnedTupleGo_items (s := { s with heap := H2, toks := T1 }) i2 fun H3 i3 s3 => ?_
    have k3 : ∀ b q, b ≠ I → H2.get? b = some q → H3.get? b = some q := fun b q n e => (s3.2 b n).trans e
    have g3 := g2.but hI1 hnI k3
    have f3 := f2.but hne k3
    have x3 := x2.butI hI0 k3
    have tu3 : IsTup H3 H1.objs.size #[en.key, en.val] := ⟨_, k3 _ _ htu tu2, rfl, _, rfl⟩
    refine assign_Tuple_tuple (s := { s with heap := H3, toks := T1 }) hA.hd tu3 rfl rfl fun H4 q4 => ?_
    have k4 : ∀ b q, H3.get? b = some q → H4.get? b = some q := extBut_keep (fun b o e => e) q4
    have g4 := g3.grow k4
    have f4 : FrmF C.L C.G N β1 T1 m1 A₀ H4 fm1 := f3.but hne (fun b q _ e => k4 b q e)
    have x4 : ExtF A₀ β s.heap β1 H4 := x3.trans (Ext.grow k4).toF
    have i4 := k4 _ _ i3
    show wpAny _ _ (assignInOrder [assign (.Name (N.slots.getD ki default) kp) env, assign (.Name (N.slots.getD vi default) vp) env] [en.key, en.val]) _ _ _
    refine assignInOrder_cons (assign_Name ?_)
    have rk : VR C.L β1 T1 (.str k) en.key := by rw [h1]; exact ⟨t, rfl, h4, h5, h6⟩
    have rv : VR C.L β1 T1 (.str v) en.val := by rw [hu]; exact ⟨u, rfl, u0, u9, ul⟩
    refine storeF (s := { s with heap := H4, toks := T1 }) V₀ okk g4 f4 rk fun H5 x5 g5 f5 k5 => ?_
    refine assignInOrder_cons (assign_Name ?_)
    refine storeF (s := { s with heap := H5, toks := T1 + 1 }) V₀ okv g5 f5 (rv.mono (Pre.refl _) (Nat.le_succ _)) fun H6 x6 g6 f6 k6 => ?_
    refine assignInOrder_nil ?_
    have i6 := k6 _ _ (Ne.symm hne) (k5 _ _ (Ne.symm hne) i4)
    have x7 : ExtF A₀ β s.heap β1 H6 := (x4.trans x5).trans x6
    obtain ⟨yl, hyl, ryl⟩ := lr1.get hl
    have ls : (fun z => if z = N.slots.getD vi default then some en.val else (fun z => if z = N.slots.getD ki default then some en.key else fm1 z) z) (N.slots.getD si default) = some yl := by
      simp only [if_neg nsv, if_neg nsk]; exact hyl
    have lk : (fun z => if z = N.slots.getD vi default then some en.val else (fun z => if z = N.slots.getD ki default then some en.key else fm1 z) z) (N.slots.getD ki default) = some en.key := by
      simp only [if_neg nkv, if_true]
    have lv : (fun z => if z = N.slots.getD vi default then some en.val else (fun z => if z = N.slots.getD ki default then some en.key else fm1 z) z) (N.slots.getD vi default) = some en.val := by
      simp only [if_true]
    have rl : VR C.L β1 (T1 + 1 + 1) (.str l) yl := ryl.mono (Pre.refl _) (Nat.le_trans (Nat.le_succ _) (Nat.le_succ _))
    refine rep_body (s := { s with heap := H6, toks := T1 + 1 + 1 }) ok0 V₀ oks okk okv hl2 hd1 hd2 hd3 g6 f6 ls (lk.trans (congrArg some h1)) (lv.trans (congrArg some hu)) rl h4 u0 hne2 hk0 hlen fun β8 H8 H9 T9 t9 x8 x9 g9 f9 => ?_
    have i8 := x8.keep _ _ hI1 i6
    have i9 := x9.keep _ _ i8.2 (Ne.symm hne) i8.1
    exact ⟨n - 1, by omega, i + 1, β8, H9, T9, _, en.key, en.val, by omega, rfl, Nat.le_trans t1 (Nat.le_trans (Nat.le_succ _) (Nat.le_trans (Nat.le_succ _) t9)), (x7.trans x8.toF).trans x9, i9.2, g9, f9, by rw [← hz]; exact i9.1, e⟩
  · have hi : i = es.length := by omega
    subst hi
    rw [List.drop_length] at e
    cases e
    obtain ⟨kvs1, q3, q4⟩ := dictAt_of (C := C) ha1 al1 nd1
    refine wpAny_pyNext_items_end (s := { s with heap := H1, toks := T1 }) (knd := strKind C.prog C.w) (it := I) (d := a) (i := es.length) (ep := ep) (kvs := kvs1) (ok := ok) (ov := ov) hA.hd (by rw [q4.trans q2.symm]; exact hit1) q3 (List.getElem?_eq_none (by omega)) fun H2 hs2 => ?_
    refine wpAny_execs_nil ?_
    exact pst .next β1 H2 T1 t1 (x1.butI hI0 hs2) (g1.but hI1 gI.2 hs2) (f1.but hne hs2) rfl
end
end Mine

end

section
open PySem PySem.Calls PyProof.Rows PySem.W
namespace Mine

/-- what a def is in the model, and in the small language -/
structure FnOk (C : Cx) (fn : Fn) (a : Addr) (o : Obj) (fd : FuncData) (N : Nm) : Prop where
  ho : C.G.get? a = some o
  data : o.data = .func fd
  body : fd.body = .stmts (fn.body.back N)
  ok : fn.body.ok N fd.scope = true
  code : C.G.CodeRec fd.code fd.qualname
  cell : ∀ x ∈ fd.scope.names, x.2 ≠ .cell
  loc : ∀ x ∈ N.slots.take fn.np, fd.scope.names.lookup x = some .local
  glo : fd.globals = mainGlobals
  blt : fd.builtins = builtinsNs
  co : fd.scope.isCoroutine = false
  gen : fd.scope.isGenerator = false
  kind : fd.scope.kind = .function
  globs : N.globs = C.globs
  nd : N.slots.Nodup
  ns : N.slots.length = fn.nslots
  np : fn.np ≤ fn.nslots
  bind : ∀ (s : Shared) (xs : List Value), (∀ b o, C.G.get? b = some o → s.heap.get? b = some o) → xs.length = fn.np → BindsTo s fd ⟨xs, []⟩ ((N.slots.take fn.np).zip xs)
  bindD : ∀ j, fn.dflt = some j → ∃ x, VR C.L [] 0 (.ext j) x ∧ ∀ (s : Shared) (xs : List Value), (∀ b o, C.G.get? b = some o → s.heap.get? b = some o) → xs.length + 1 = fn.np → BindsTo s fd ⟨xs, []⟩ ((N.slots.take fn.np).zip (xs ++ [x]))

section
variable {C : Cx} {N : Nm} {sc : Scope} {env : Env} {A₀ : Addr} {A : Around} {d : Nat} {m m' : M} {h h' : Hp} {f : Fl} {s : Shared} {β : List Addr} {E : Value → Shared → Prop} {S : Sm}

theorem lookup_in {x : Str} {y : Value} : ∀ {l : List (Str × Value)}, (l.map (·.1)).Nodup → (x, y) ∈ l → l.lookup x = some y
  | (k, v) :: r, nd, hm => by
    rw [List.lookup_cons]
    cases hm with
    | head => simp
    | tail _ hm =>
      have hne : (x == k) = false := by
        refine beq_eq_false_iff_ne.mpr fun e => ?_
        exact (List.nodup_cons.mp nd).1 (e ▸ List.mem_map.mpr ⟨_, hm, rfl⟩)
      rw [hne]
      exact lookup_in (List.nodup_cons.mp nd).2 hm
theorem lookup_out {x : Str} : ∀ {l : List (Str × Value)}, x ∉ l.map (·.1) → l.lookup x = none
  | [], _ => rfl
  | (k, v) :: r, hm => by
    rw [List.lookup_cons]
    have hne : (x == k) = false := beq_eq_false_iff_ne.mpr fun e => hm (e ▸ .head _)
    rw [hne]
    exact lookup_out fun q => hm (.tail _ q)

theorem LR.start {L : Pl} {T : Nat} {g : Str → Option Value} : ∀ {as bs : List Str} {vs : List V} {xs : List Value}, All2 (VR L β T) vs xs → as.length = xs.length → (∀ p ∈ as.zip xs, g p.1 = some p.2) → (∀ b ∈ bs, g b = none) → LR L β T (as ++ bs) (vs.map some ++ List.replicate bs.length none) g
  | [], bs, [], [], _, _, _, h2 => by
    induction bs with
    | nil => trivial
    | cons b bs ih => exact ⟨h2 b (.head _), ih fun c hc => h2 c (.tail _ hc)⟩
  | a :: as, bs, v :: vs, x :: xs, al, hl, h1, h2 => by
    refine ⟨⟨x, h1 (a, x) (.head _), al.1⟩, LR.start al.2 (by simpa using hl) (fun p hp => h1 p (.tail _ hp)) h2⟩
  | [], _, _ :: _, [], al, _, _, _ => al.elim
  | [], _, [], _ :: _, al, _, _, _ => al.elim
  | [], _, _ :: _, _ :: _, _, hl, _, _ => by simp at hl
  | _ :: _, _, [], [], _, hl, _, _ => by simp at hl
  | _ :: _, _, [], _ :: _, al, _, _, _ => al.elim
  | _ :: _, _, _ :: _, [], al, _, _, _ => al.elim

theorem stepS_sound (ok0 : C.Ok) (ih : SEv C S d) (it : STr C S d) (ix : SEx C S d) (hev : ∀ (c : C0) (p : Pos) (m : M) (h : Hp) r, S.ev (.cst c p) m h = some r → r = (c.val, h))
    (hlo : ∀ (i : Nat) (p : Pos) (m : M) (h : Hp) r, S.ev (.loc i p) m h = some r → stepE C.X S (.loc i p) m h = some r) {Q : Flow → Shared → Prop}
    (t : MS) (V₀ : EnvOk C N sc env A₀) (hA : AOk A d) (ok : t.ok N sc = true) (hs : stepS C.X S t m h = some (f, m', h')) (G : Gd C.w C.L C.G β s.toks h s.heap) (Fm : Frm C.L C.G N β s.toks m A₀ s.heap) (pst : PstX C N A₀ s β f m' h' Q) :
    wpAny (model C.prog C.w) A (exec (t.back N) env) Q E s := by
  cases t with
  | asg i tp e p => exact ex_asg ih V₀ hA ok hs G Fm pst
  | asg2 i j tpi tpj tp a b vp p => exact ex_asg2 ih V₀ hA ok hs G Fm pst
  | sets o i tp e p => exact ex_sets ih hev hlo V₀ hA ok hs G Fm pst
  | ite t b o p => exact ex_ite it ix V₀ hA ok hs G Fm pst
  | «while» t b p => exact ex_while it ix V₀ hA ok hs G Fm pst
  | for1 x xp i b p => exact ex_for1 ok0 ih ix V₀ hA ok hs G Fm pst
  | rep _ _ _ _ _ _ _ _ _ _ _ _ _ _ _ _ _ _ => exact ex_rep ok0 V₀ hA ok hs G Fm pst
  | ret e p => exact ex_ret ih V₀ hA ok hs G Fm pst
  | expr e p => exact absurd ok Bool.false_ne_true
  | brk p => exact ex_brk hs G Fm pst

theorem stepX_sound (ok0 : C.Ok) (ih : SEv C S d) (it : STr C S d) (ix : SEx C S d) (hev : ∀ (c : C0) (p : Pos) (m : M) (h : Hp) r, S.ev (.cst c p) m h = some r → r = (c.val, h))
    (hlo : ∀ (i : Nat) (p : Pos) (m : M) (h : Hp) r, S.ev (.loc i p) m h = some r → stepE C.X S (.loc i p) m h = some r) {Q : Flow → Shared → Prop}
    (b : MSs) (V₀ : EnvOk C N sc env A₀) (hA : AOk A d) (ok : b.ok N sc = true) (hs : stepX C.X S b m h = some (f, m', h')) (G : Gd C.w C.L C.G β s.toks h s.heap) (Fm : Frm C.L C.G N β s.toks m A₀ s.heap) (pst : PstX C N A₀ s β f m' h' Q) :
    wpAny (model C.prog C.w) A (execs (b.back N) env) Q E s := by
  cases b with
  | nil =>
    cases hs
    exact wpAny_execs_nil (pst .next β s.heap s.toks (Nat.le_refl _) (ExtF.refl _ _ _) G Fm rfl)
  | cons t r =>
    replace ok := (show (_ && _) = true from ok)
    simp only [Bool.and_eq_true] at ok
    obtain ⟨⟨f1, m1, h1⟩, e1, hs⟩ := bind_some hs
    refine wpAny_execs_cons ?_
    refine stepS_sound ok0 ih it ix hev hlo t V₀ hA ok.1 e1 G Fm fun x β1 H1 T1 t1 x1 g1 fr1 r1 => ?_
    cases f1 with
    | next =>
      cases r1
      exact ix r N sc env A₀ A m1 m' h1 h' f ok.2 V₀ hA hs { s with heap := H1, toks := T1 } β1 Q E g1 fr1 (pst.step t1 x1)
    | cont => cases r1; cases hs; exact pst .cont β1 H1 T1 t1 x1 g1 fr1 rfl
    | brk => cases r1; cases hs; exact pst .brk β1 H1 T1 t1 x1 g1 fr1 rfl
    | ret v => obtain ⟨y, rfl, r⟩ := r1; cases hs; exact pst _ β1 H1 T1 t1 x1 g1 fr1 ⟨y, rfl, r⟩

noncomputable def retV : Fl → V
  | .ret v => v
  | _ => .none

theorem stepC_sound (ok0 : C.Ok) (Fk : ∀ (g : Nat) (fn : Fn), C.F[g]? = some fn → ∃ a o fd N, C.L.fa[g]? = some a ∧ FnOk C fn a o fd N) (ix : SEx C S d) {g : Nat} {vs : List V} {v : V} {R : Result → Shared → Prop} {a : Addr} {xs : List Value}
    (hA : AOk A (d + 1)) (hs : stepC C.F S g vs h = some (v, h')) (ha : C.L.fa[g]? = some a) (r : All2 (VR C.L β s.toks) vs xs) (G : Gd C.w C.L C.G β s.toks h s.heap) (pst : Pst C s β h' v (fun x s' => R (.ok (.ret x)) s')) :
    codeAny (model C.prog C.w) A (.call (.ref a) ⟨xs, []⟩) R s := by
  obtain ⟨fn, e1, hs⟩ := bind_some hs
  obtain ⟨a', o, fd, N, ha', K⟩ := Fk g fn e1
  rw [ha] at ha'
  cases ha'
  obtain ⟨vs', e2, hs⟩ := bind_some hs
  obtain ⟨⟨fl, m', h1⟩, e3, hs⟩ := map_some hs
  have hv : v = retV fl ∧ h1 = h' := by
    cases fl <;> (cases hs; exact ⟨rfl, rfl⟩)
  clear hs
  obtain ⟨rfl, rfl⟩ := hv
  obtain ⟨xs', hlen, hr, hb⟩ : ∃ xs', vs'.length = fn.np ∧ All2 (VR C.L β s.toks) vs' xs' ∧ BindsTo s fd ⟨xs, []⟩ ((N.slots.take fn.np).zip xs') := by
    split at e2
    · rename_i hl
      cases e2
      exact ⟨xs, hl, r, K.bind s xs G.base (by rw [← r.length]; exact hl)⟩
    · split at e2
      · rename_i j hj
        split at e2
        · rename_i hl
          cases e2
          obtain ⟨x, rx, hx⟩ := K.bindD j hj
          refine ⟨xs ++ [x], by simpa using hl, All2.append r ⟨rx.mono ⟨β, rfl⟩ (Nat.zero_le _), trivial⟩, hx s xs G.base (by rw [← r.length]; exact hl)⟩
        · cases e2
      · cases e2
  have hxl : xs'.length = fn.np := by rw [← hr.length]; exact hlen
  have htl : (N.slots.take fn.np).length = fn.np := by
    rw [List.length_take, K.ns]; exact Nat.min_eq_left K.np
  have hb0 : ((N.slots.take fn.np).zip xs').map (·.1) = N.slots.take fn.np := by
    rw [List.map_fst_zip (by rw [htl, hxl]; exact Nat.le_refl _)]
  obtain ⟨c, co, cvs, ct, hcd⟩ := K.code
  refine codeAny_call_def (Nat.lt_of_le_of_lt (Nat.le_add_right _ _) hA.dep) (G.base _ _ K.ho) K.data (ok0.nolimit.keeps G.base) ⟨c, co, cvs, ct, hcd.1, G.base _ _ hcd.2.1, hcd.2.2⟩ K.body hb K.cell (fun x hx => K.loc x.1 (by rw [← hb0]; exact List.mem_map.mpr ⟨x, hx, rfl⟩)) ?_ K.co K.gen K.kind
  intro h₀ hn hk
  have hA' : AOk (A.deeper (callEnv fd s.heap.objs.size a)) d := by
    obtain ⟨a1, a2, a3⟩ := hA
    refine ⟨a1, ?_, ?_⟩
    · rw [depth_deeper]; omega
    · rw [units_deeper]; omega
  have hT : s.toks ≤ s.toks + ((N.slots.take fn.np).zip xs').length := Nat.le_add_right _ _
  have V₀ : EnvOk C N fd.scope (callEnv fd s.heap.objs.size a) s.heap.objs.size := ⟨rfl, K.kind, rfl, K.glo, K.blt, K.globs, K.nd⟩
  have hnd : (((N.slots.take fn.np).zip xs').reverse.map (·.1)).Nodup := by
    rw [List.map_reverse, hb0]
    have h0 : (N.slots.take fn.np).Nodup := K.nd.sublist (List.take_sublist _ _)
    unfold List.Nodup at h0 ⊢
    rw [List.pairwise_reverse]
    exact h0.imp fun h => Ne.symm h
  have hsp : N.slots.take fn.np ++ N.slots.drop fn.np = N.slots := List.take_append_drop _ _
  have hlr : LR C.L β s.toks N.slots (vs'.map some ++ List.replicate (fn.nslots - fn.np) none) (fun x => ((N.slots.take fn.np).zip xs').reverse.lookup x) := by
    have := LR.start (β := β) (g := fun x => ((N.slots.take fn.np).zip xs').reverse.lookup x) (bs := N.slots.drop fn.np) hr (by rw [htl, hxl]) (fun p hp => lookup_in hnd (List.mem_reverse.mpr hp)) fun b hb => by
      refine lookup_out ?_
      rw [List.map_reverse, hb0, List.mem_reverse]
      intro hm
      have := K.nd
      rw [← hsp, List.nodup_append] at this
      exact this.2.2 b hm b hb rfl
    rw [hsp, List.length_drop, K.ns] at this
    exact this
  have Fm : Frm C.L C.G N β (s.toks + ((N.slots.take fn.np).zip xs').length) (vs'.map some ++ List.replicate (fn.nslots - fn.np) none) s.heap.objs.size h₀ :=
    ⟨⟨_, hn, hlr.mono (Pre.refl _) hT⟩, G.fresh.1, G.fresh.2⟩
  refine ix fn.body N fd.scope _ _ _ _ m' h h1 fl K.ok V₀ hA' e3 { s with heap := h₀, toks := s.toks + ((N.slots.take fn.np).zip xs').length } β _ _ ((G.grow hk).toks hT) Fm fun y β' H' T' t1 x1 g1 f1 r1 => ?_
  have xx : Ext β s.heap β' H' := ⟨x1.pre, fun b o n e => x1.keep b o n (fun z => by rw [z] at e; exact Nat.lt_irrefl _ (Heap.lt_size e)) (hk b o e)⟩
  have tt := Nat.le_trans hT t1
  cases fl with
  | next => cases r1; exact pst _ β' H' T' tt xx g1 rfl
  | brk => cases r1; exact pst _ β' H' T' tt xx g1 rfl
  | cont => cases r1; exact pst _ β' H' T' tt xx g1 rfl
  | ret v => obtain ⟨z, rfl, r⟩ := r1; exact pst _ β' H' T' tt xx g1 r

structure Snd (C : Cx) (S : Sm) (d : Nat) : Prop where
  ev : SEv C S d
  tr : STr C S d
  cl : SCl C S d
  ex : SEx C S d
  cst : ∀ (c : C0) (p : Pos) (m : M) (h : Hp) r, S.ev (.cst c p) m h = some r → r = (c.val, h)
  loc : ∀ (i : Nat) (p : Pos) (m : M) (h : Hp) r, S.ev (.loc i p) m h = some r → stepE C.X S (.loc i p) m h = some r

theorem snd (ok0 : C.Ok) (Fk : ∀ (g : Nat) (fn : Fn), C.F[g]? = some fn → ∃ a o fd N, C.L.fa[g]? = some a ∧ FnOk C fn a o fd N) : ∀ n d, Snd C (Mi C.F C.X n d) d
  | 0, d => by
    refine ⟨?_, ?_, ?_, ?_, ?_, ?_⟩
    · intro e N sc env A₀ A m h h' v _ _ _ e1; cases e1
    · intro e N sc env A₀ A m h h' v t _ _ _ e1; cases e1
    · intro g vs h h' v A _ e1; cases e1
    · intro b N sc env A₀ A m m' h h' f _ _ _ e1; cases e1
    · intro c p m h r e; cases e
    · intro c p m h r e; cases e
  | n + 1, d => by
    have I := snd ok0 Fk n d
    refine ⟨?_, ?_, ?_, ?_, ?_, ?_⟩
    · intro e N sc env A₀ A m h h' v ok V₀ hA hs s β Q E G Fm pst
      exact stepE_sound ok0 I.ev I.tr I.cl I.cst e ok V₀ hA hs G Fm pst
    · intro e N sc env A₀ A m h h' v t ok V₀ hA hs ht s β Q E G Fm k
      exact stepT_sound ok0 I.ev I.tr I.cl I.cst e ok V₀ hA hs ht G Fm k
    · cases d with
      | zero => intro g vs h h' v A _ e1; cases e1
      | succ d =>
        intro g vs h h' v A hA hs s β a xs R ha r G pst
        exact stepC_sound ok0 Fk (snd ok0 Fk n d).ex hA hs ha r G pst
    · intro b N sc env A₀ A m m' h h' f ok V₀ hA hs s β Q E G Fm pst
      exact stepX_sound ok0 I.ev I.tr I.ex I.cst I.loc b V₀ hA ok hs G Fm pst
    · intro c p m h r e; cases e; rfl
    · intro i p m h r e; exact e
end
end Mine

end

section
open PySem PySem.Calls PyProof.Rows PySem.W
set_option maxRecDepth 100000
namespace Mine
noncomputable def fnames : List Str := [Str.ofString "dict_replace_saxutils", Str.ofString "escape", Str.ofString "unescape", Str.ofString "quoteattr", Str.ofString "_law_pieces", Str.ofString "_law_read", Str.ofString "_law_quoted", Str.ofString "_law_plain", Str.ofString "_law_marked", Str.ofString "_law_asked", Str.ofString "law"]
noncomputable def nm_dict_replace_saxutils : Nm := ⟨[Str.ofString "s", Str.ofString "d", Str.ofString "key", Str.ofString "value"], fnames⟩
noncomputable def b_dict_replace_saxutils : MSs :=
 (.cons (.rep 0 2 3 1 ⟨3, 8, 3, 11⟩ ⟨3, 13, 3, 18⟩ ⟨3, 8, 3, 18⟩ ⟨3, 22, 3, 23⟩ ⟨3, 22, 3, 29⟩ ⟨3, 22, 3, 31⟩ ⟨4, 8, 4, 9⟩ ⟨4, 12, 4, 13⟩ ⟨4, 12, 4, 21⟩ ⟨4, 22, 4, 25⟩ ⟨4, 27, 4, 32⟩ ⟨4, 12, 4, 33⟩ ⟨4, 8, 4, 33⟩ ⟨3, 4, 4, 33⟩)
 (.cons (.ret (.loc 0 ⟨5, 11, 5, 12⟩) ⟨5, 4, 5, 12⟩)
 .nil))
noncomputable def nm_escape : Nm := ⟨[Str.ofString "data", Str.ofString "entities"], fnames⟩
noncomputable def b_escape : MSs :=
 (.cons (.asg 0 ⟨7, 4, 7, 8⟩ (.meth .replace (.loc 0 ⟨7, 11, 7, 15⟩) ⟨7, 11, 7, 23⟩ (.cons (.cst (.str "&") ⟨7, 24, 7, 27⟩) (.cons (.cst (.str "&amp;") ⟨7, 29, 7, 36⟩) .nil)) ⟨7, 11, 7, 37⟩) ⟨7, 4, 7, 37⟩)
 (.cons (.asg 0 ⟨8, 4, 8, 8⟩ (.meth .replace (.loc 0 ⟨8, 11, 8, 15⟩) ⟨8, 11, 8, 23⟩ (.cons (.cst (.str ">") ⟨8, 24, 8, 27⟩) (.cons (.cst (.str "&gt;") ⟨8, 29, 8, 35⟩) .nil)) ⟨8, 11, 8, 36⟩) ⟨8, 4, 8, 36⟩)
 (.cons (.asg 0 ⟨9, 4, 9, 8⟩ (.meth .replace (.loc 0 ⟨9, 11, 9, 15⟩) ⟨9, 11, 9, 23⟩ (.cons (.cst (.str "<") ⟨9, 24, 9, 27⟩) (.cons (.cst (.str "&lt;") ⟨9, 29, 9, 35⟩) .nil)) ⟨9, 11, 9, 36⟩) ⟨9, 4, 9, 36⟩)
 (.cons (.ite (.loc 1 ⟨10, 7, 10, 15⟩)
 (.cons (.asg 0 ⟨11, 8, 11, 12⟩ (.call (.glob 0 ⟨11, 15, 11, 36⟩) (.cons (.loc 0 ⟨11, 37, 11, 41⟩) (.cons (.loc 1 ⟨11, 43, 11, 51⟩) .nil)) ⟨11, 15, 11, 52⟩) ⟨11, 8, 11, 52⟩)
 .nil)
 .nil ⟨10, 4, 11, 52⟩)
 (.cons (.ret (.loc 0 ⟨12, 11, 12, 15⟩) ⟨12, 4, 12, 15⟩)
 .nil)))))
noncomputable def nm_unescape : Nm := ⟨[Str.ofString "data", Str.ofString "entities"], fnames⟩
noncomputable def b_unescape : MSs :=
 (.cons (.asg 0 ⟨14, 4, 14, 8⟩ (.meth .replace (.loc 0 ⟨14, 11, 14, 15⟩) ⟨14, 11, 14, 23⟩ (.cons (.cst (.str "&lt;") ⟨14, 24, 14, 30⟩) (.cons (.cst (.str "<") ⟨14, 32, 14, 35⟩) .nil)) ⟨14, 11, 14, 36⟩) ⟨14, 4, 14, 36⟩)
 (.cons (.asg 0 ⟨15, 4, 15, 8⟩ (.meth .replace (.loc 0 ⟨15, 11, 15, 15⟩) ⟨15, 11, 15, 23⟩ (.cons (.cst (.str "&gt;") ⟨15, 24, 15, 30⟩) (.cons (.cst (.str ">") ⟨15, 32, 15, 35⟩) .nil)) ⟨15, 11, 15, 36⟩) ⟨15, 4, 15, 36⟩)
 (.cons (.ite (.loc 1 ⟨16, 7, 16, 15⟩)
 (.cons (.asg 0 ⟨17, 8, 17, 12⟩ (.call (.glob 0 ⟨17, 15, 17, 36⟩) (.cons (.loc 0 ⟨17, 37, 17, 41⟩) (.cons (.loc 1 ⟨17, 43, 17, 51⟩) .nil)) ⟨17, 15, 17, 52⟩) ⟨17, 8, 17, 52⟩)
 .nil)
 .nil ⟨16, 4, 17, 52⟩)
 (.cons (.ret (.meth .replace (.loc 0 ⟨18, 11, 18, 15⟩) ⟨18, 11, 18, 23⟩ (.cons (.cst (.str "&amp;") ⟨18, 24, 18, 31⟩) (.cons (.cst (.str "&") ⟨18, 33, 18, 36⟩) .nil)) ⟨18, 11, 18, 37⟩) ⟨18, 4, 18, 37⟩)
 .nil))))
noncomputable def nm_quoteattr : Nm := ⟨[Str.ofString "data", Str.ofString "entities"], fnames⟩
noncomputable def b_quoteattr : MSs :=
 (.cons (.asg 1 ⟨20, 4, 20, 12⟩ (.dict (.yes (.loc 1 ⟨20, 18, 20, 26⟩)) (.cons (.cst (.str "\n") ⟨20, 28, 20, 32⟩) (.cons (.cst (.str "\r") ⟨20, 43, 20, 47⟩) (.cons (.cst (.str "\t") ⟨20, 58, 20, 62⟩) .nil))) (.cons (.cst (.str "&#10;") ⟨20, 34, 20, 41⟩) (.cons (.cst (.str "&#13;") ⟨20, 49, 20, 56⟩) (.cons (.cst (.str "&#9;") ⟨20, 64, 20, 70⟩) .nil))) ⟨20, 15, 20, 71⟩) ⟨20, 4, 20, 71⟩)
 (.cons (.asg 0 ⟨21, 4, 21, 8⟩ (.call (.glob 1 ⟨21, 11, 21, 17⟩) (.cons (.loc 0 ⟨21, 18, 21, 22⟩) (.cons (.loc 1 ⟨21, 24, 21, 32⟩) .nil)) ⟨21, 11, 21, 33⟩) ⟨21, 4, 21, 33⟩)
 (.cons (.ite (.cmp .In (.cst (.str "\"") ⟨22, 7, 22, 10⟩) (.loc 0 ⟨22, 14, 22, 18⟩) ⟨22, 7, 22, 18⟩)
 (.cons (.ite (.cmp .In (.cst (.str "'") ⟨23, 11, 23, 14⟩) (.loc 0 ⟨23, 18, 23, 22⟩) ⟨23, 11, 23, 22⟩)
 (.cons (.asg 0 ⟨24, 12, 24, 16⟩ (.bin .Mod (.cst (.str "\"%s\"") ⟨24, 19, 24, 25⟩) (.meth .replace (.loc 0 ⟨24, 28, 24, 32⟩) ⟨24, 28, 24, 40⟩ (.cons (.cst (.str "\"") ⟨24, 41, 24, 44⟩) (.cons (.cst (.str "&quot;") ⟨24, 46, 24, 54⟩) .nil)) ⟨24, 28, 24, 55⟩) ⟨24, 19, 24, 55⟩) ⟨24, 12, 24, 55⟩)
 .nil)
 (.cons (.asg 0 ⟨26, 12, 26, 16⟩ (.bin .Mod (.cst (.str "'%s'") ⟨26, 19, 26, 25⟩) (.loc 0 ⟨26, 28, 26, 32⟩) ⟨26, 19, 26, 32⟩) ⟨26, 12, 26, 32⟩)
 .nil) ⟨23, 8, 26, 32⟩)
 .nil)
 (.cons (.asg 0 ⟨28, 8, 28, 12⟩ (.bin .Mod (.cst (.str "\"%s\"") ⟨28, 15, 28, 21⟩) (.loc 0 ⟨28, 24, 28, 28⟩) ⟨28, 15, 28, 28⟩) ⟨28, 8, 28, 28⟩)
 .nil) ⟨22, 4, 28, 28⟩)
 (.cons (.ret (.loc 0 ⟨29, 11, 29, 15⟩) ⟨29, 4, 29, 15⟩)
 .nil))))
noncomputable def nm_law_pieces : Nm := ⟨[Str.ofString "script", Str.ofString "every", Str.ofString "good", Str.ofString "text", Str.ofString "x", Str.ofString "k"], fnames⟩
noncomputable def b_law_pieces : MSs :=
 (.cons (.asg 1 ⟨32, 4, 32, 9⟩ (.list (.cons (.cst (.str "a") ⟨32, 13, 32, 16⟩) (.cons (.cst (.str "&") ⟨32, 18, 32, 21⟩) (.cons (.cst (.str "<") ⟨32, 23, 32, 26⟩) (.cons (.cst (.str ">") ⟨32, 28, 32, 31⟩) (.cons (.cst (.str "\"") ⟨32, 33, 32, 36⟩) (.cons (.cst (.str "'") ⟨32, 38, 32, 41⟩) (.cons (.cst (.str "\n") ⟨32, 43, 32, 47⟩) (.cons (.cst (.str "\r") ⟨32, 49, 32, 53⟩) (.cons (.cst (.str "\t") ⟨32, 55, 32, 59⟩) (.cons (.cst (.str "&amp;") ⟨32, 61, 32, 68⟩) (.cons (.cst (.str "&lt;") ⟨32, 70, 32, 76⟩) (.cons (.cst (.str "\"") ⟨32, 78, 32, 81⟩) (.cons (.cst (.str "&gt;") ⟨32, 83, 32, 89⟩) (.cons (.cst (.str "&quot;") ⟨32, 91, 32, 99⟩) (.cons (.cst (.str "&#10;") ⟨32, 101, 32, 108⟩) (.cons (.cst (.str "&#13;") ⟨32, 110, 32, 117⟩) (.cons (.cst (.str "&#9;") ⟨32, 119, 32, 125⟩) (.cons (.cst (.str ";") ⟨32, 127, 32, 130⟩) (.cons (.cst (.str "amp;") ⟨32, 132, 32, 138⟩) (.cons (.cst (.str "quot;") ⟨32, 140, 32, 147⟩) (.cons (.cst (.str "#9;") ⟨32, 149, 32, 154⟩) (.cons (.cst (.str "&#9") ⟨32, 156, 32, 161⟩) .nil)))))))))))))))))))))) ⟨32, 12, 32, 162⟩) ⟨32, 4, 32, 162⟩)
 (.cons (.asg 2 ⟨33, 4, 33, 8⟩ (.list (.cons (.cst (.str "a") ⟨33, 12, 33, 15⟩) (.cons (.cst (.str "&amp;") ⟨33, 17, 33, 24⟩) (.cons (.cst (.str "&lt;") ⟨33, 26, 33, 32⟩) (.cons (.cst (.str "&gt;") ⟨33, 34, 33, 40⟩) (.cons (.cst (.str "b") ⟨33, 42, 33, 45⟩) (.cons (.cst (.str ";") ⟨33, 47, 33, 50⟩) (.cons (.cst (.str "amp;") ⟨33, 52, 33, 58⟩) (.cons (.cst (.str "'") ⟨33, 60, 33, 63⟩) (.cons (.cst (.str "&quot;") ⟨33, 65, 33, 73⟩) (.cons (.cst (.str "&#10;") ⟨33, 75, 33, 82⟩) (.cons (.cst (.str "&#13;") ⟨33, 84, 33, 91⟩) (.cons (.cst (.str "&#9;") ⟨33, 93, 33, 99⟩) (.cons (.cst (.str "lt;") ⟨33, 101, 33, 106⟩) (.cons (.cst (.str " ") ⟨33, 108, 33, 111⟩) .nil)))))))))))))) ⟨33, 11, 33, 112⟩) ⟨33, 4, 33, 112⟩)
 (.cons (.asg 3 ⟨34, 4, 34, 8⟩ (.cst (.str "") ⟨34, 11, 34, 13⟩) ⟨34, 4, 34, 13⟩)
 (.cons (.for1 4 ⟨35, 8, 35, 9⟩ (.loc 0 ⟨35, 13, 35, 19⟩)
 (.cons (.asg 5 ⟨36, 8, 36, 9⟩ (.bcall .abs ⟨36, 12, 36, 15⟩ (.cons (.loc 4 ⟨36, 16, 36, 17⟩) .nil) ⟨36, 12, 36, 18⟩) ⟨36, 8, 36, 18⟩)
 (.cons (.ite (.cmp .Gt (.bin .Mod (.bin .FloorDiv (.loc 5 ⟨37, 11, 37, 12⟩) (.cst (.int 64) ⟨37, 16, 37, 18⟩) ⟨37, 11, 37, 18⟩) (.cst (.int 4) ⟨37, 21, 37, 22⟩) ⟨37, 11, 37, 22⟩) (.cst (.int 0) ⟨37, 25, 37, 26⟩) ⟨37, 11, 37, 26⟩)
 (.cons (.asg 3 ⟨38, 12, 38, 16⟩ (.bin .Add (.loc 3 ⟨38, 19, 38, 23⟩) (.idx (.loc 2 ⟨38, 26, 38, 30⟩) (.bin .Mod (.bin .Mod (.loc 5 ⟨38, 31, 38, 32⟩) (.cst (.int 64) ⟨38, 35, 38, 37⟩) ⟨38, 31, 38, 37⟩) (.cst (.int 14) ⟨38, 40, 38, 42⟩) ⟨38, 31, 38, 42⟩) ⟨38, 26, 38, 43⟩) ⟨38, 19, 38, 43⟩) ⟨38, 12, 38, 43⟩)
 .nil)
 (.cons (.asg 3 ⟨40, 12, 40, 16⟩ (.bin .Add (.loc 3 ⟨40, 19, 40, 23⟩) (.idx (.loc 1 ⟨40, 26, 40, 31⟩) (.bin .Mod (.bin .Mod (.loc 5 ⟨40, 32, 40, 33⟩) (.cst (.int 64) ⟨40, 36, 40, 38⟩) ⟨40, 32, 40, 38⟩) (.cst (.int 22) ⟨40, 41, 40, 43⟩) ⟨40, 32, 40, 43⟩) ⟨40, 26, 40, 44⟩) ⟨40, 19, 40, 44⟩) ⟨40, 12, 40, 44⟩)
 .nil) ⟨37, 8, 40, 44⟩)
 .nil)) ⟨35, 4, 40, 44⟩)
 (.cons (.ret (.loc 3 ⟨41, 11, 41, 15⟩) ⟨41, 4, 41, 15⟩)
 .nil)))))
noncomputable def nm_law_read : Nm := ⟨[Str.ofString "text", Str.ofString "known", Str.ofString "bare", Str.ofString "read", Str.ofString "at", Str.ofString "sign", Str.ofString "size", Str.ofString "name"], fnames⟩
noncomputable def b_law_read : MSs :=
 (.cons (.asg2 3 4 ⟨43, 4, 43, 8⟩ ⟨43, 10, 43, 12⟩ ⟨43, 4, 43, 12⟩ (.cst (.str "") ⟨43, 16, 43, 18⟩) (.cst (.int 0) ⟨43, 20, 43, 21⟩) ⟨43, 15, 43, 22⟩ ⟨43, 4, 43, 22⟩)
 (.cons (.while (.cmp .Lt (.loc 4 ⟨44, 10, 44, 12⟩) (.bcall .len ⟨44, 15, 44, 18⟩ (.cons (.loc 0 ⟨44, 19, 44, 23⟩) .nil) ⟨44, 15, 44, 24⟩) ⟨44, 10, 44, 24⟩)
 (.cons (.asg2 5 6 ⟨45, 8, 45, 12⟩ ⟨45, 14, 45, 18⟩ ⟨45, 8, 45, 18⟩ (.idx (.loc 0 ⟨45, 22, 45, 26⟩) (.loc 4 ⟨45, 27, 45, 29⟩) ⟨45, 22, 45, 30⟩) (.cst (.int 1) ⟨45, 32, 45, 33⟩) ⟨45, 21, 45, 34⟩ ⟨45, 8, 45, 34⟩)
 (.cons (.ite (.cmp .Eq (.loc 5 ⟨46, 11, 46, 15⟩) (.cst (.str "&") ⟨46, 19, 46, 22⟩) ⟨46, 11, 46, 22⟩)
 (.cons (.asg 6 ⟨47, 12, 47, 16⟩ (.cst (.int 0) ⟨47, 19, 47, 20⟩) ⟨47, 12, 47, 20⟩)
 (.cons (.for1 7 ⟨48, 16, 48, 20⟩ (.loc 1 ⟨48, 24, 48, 29⟩)
 (.cons (.ite (.cmp .Eq (.slice (.loc 0 ⟨49, 19, 49, 23⟩) (.yes (.loc 4 ⟨49, 24, 49, 26⟩)) (.yes (.bin .Add (.loc 4 ⟨49, 27, 49, 29⟩) (.bcall .len ⟨49, 32, 49, 35⟩ (.cons (.loc 7 ⟨49, 36, 49, 40⟩) .nil) ⟨49, 32, 49, 41⟩) ⟨49, 27, 49, 41⟩)) ⟨49, 24, 49, 41⟩ ⟨49, 19, 49, 42⟩) (.loc 7 ⟨49, 46, 49, 50⟩) ⟨49, 19, 49, 50⟩)
 (.cons (.asg2 5 6 ⟨50, 20, 50, 24⟩ ⟨50, 26, 50, 30⟩ ⟨50, 20, 50, 30⟩ (.idx (.loc 1 ⟨50, 34, 50, 39⟩) (.loc 7 ⟨50, 40, 50, 44⟩) ⟨50, 34, 50, 45⟩) (.bcall .len ⟨50, 47, 50, 50⟩ (.cons (.loc 7 ⟨50, 51, 50, 55⟩) .nil) ⟨50, 47, 50, 56⟩) ⟨50, 33, 50, 57⟩ ⟨50, 20, 50, 57⟩)
 .nil)
 .nil ⟨49, 16, 50, 57⟩)
 .nil) ⟨48, 12, 50, 57⟩)
 .nil))
 (.cons (.ite (.cmp .In (.loc 5 ⟨51, 13, 51, 17⟩) (.loc 2 ⟨51, 21, 51, 25⟩) ⟨51, 13, 51, 25⟩)
 (.cons (.asg 6 ⟨52, 12, 52, 16⟩ (.cst (.int 0) ⟨52, 19, 52, 20⟩) ⟨52, 12, 52, 20⟩)
 .nil)
 .nil ⟨51, 8, 52, 20⟩)
 .nil) ⟨46, 8, 52, 20⟩)
 (.cons (.ite (.cmp .Eq (.loc 6 ⟨53, 11, 53, 15⟩) (.cst (.int 0) ⟨53, 19, 53, 20⟩) ⟨53, 11, 53, 20⟩)
 (.cons (.ret (.cst .none ⟨54, 19, 54, 23⟩) ⟨54, 12, 54, 23⟩)
 .nil)
 .nil ⟨53, 8, 54, 23⟩)
 (.cons (.asg2 3 4 ⟨55, 8, 55, 12⟩ ⟨55, 14, 55, 16⟩ ⟨55, 8, 55, 16⟩ (.bin .Add (.loc 3 ⟨55, 20, 55, 24⟩) (.loc 5 ⟨55, 27, 55, 31⟩) ⟨55, 20, 55, 31⟩) (.bin .Add (.loc 4 ⟨55, 33, 55, 35⟩) (.loc 6 ⟨55, 38, 55, 42⟩) ⟨55, 33, 55, 42⟩) ⟨55, 19, 55, 43⟩ ⟨55, 8, 55, 43⟩)
 .nil)))) ⟨44, 4, 55, 43⟩)
 (.cons (.ret (.loc 3 ⟨56, 11, 56, 15⟩) ⟨56, 4, 56, 15⟩)
 .nil)))
noncomputable def nm_law_quoted : Nm := ⟨[Str.ofString "text", Str.ofString "three", Str.ofString "read"], fnames⟩
noncomputable def b_law_quoted : MSs :=
 (.cons (.asg 1 ⟨58, 4, 58, 9⟩ (.dict .no (.cons (.cst (.str "&amp;") ⟨58, 13, 58, 20⟩) (.cons (.cst (.str "&lt;") ⟨58, 27, 58, 33⟩) (.cons (.cst (.str "&gt;") ⟨58, 40, 58, 46⟩) (.cons (.cst (.str "&#10;") ⟨58, 53, 58, 60⟩) (.cons (.cst (.str "&#13;") ⟨58, 68, 58, 75⟩) (.cons (.cst (.str "&#9;") ⟨58, 83, 58, 89⟩) .nil)))))) (.cons (.cst (.str "&") ⟨58, 22, 58, 25⟩) (.cons (.cst (.str "<") ⟨58, 35, 58, 38⟩) (.cons (.cst (.str ">") ⟨58, 48, 58, 51⟩) (.cons (.cst (.str "\n") ⟨58, 62, 58, 66⟩) (.cons (.cst (.str "\r") ⟨58, 77, 58, 81⟩) (.cons (.cst (.str "\t") ⟨58, 91, 58, 95⟩) .nil)))))) ⟨58, 12, 58, 96⟩) ⟨58, 4, 58, 96⟩)
 (.cons (.ite (.or2 (.cmp .Lt (.bcall .len ⟨59, 7, 59, 10⟩ (.cons (.loc 0 ⟨59, 11, 59, 15⟩) .nil) ⟨59, 7, 59, 16⟩) (.cst (.int 2) ⟨59, 19, 59, 20⟩) ⟨59, 7, 59, 20⟩) (.cmp .NotEq (.idx (.loc 0 ⟨59, 24, 59, 28⟩) (.cst (.int 0) ⟨59, 29, 59, 30⟩) ⟨59, 24, 59, 31⟩) (.idx (.loc 0 ⟨59, 35, 59, 39⟩) (.neg (.cst (.int 1) ⟨59, 41, 59, 42⟩) ⟨59, 40, 59, 42⟩) ⟨59, 35, 59, 43⟩) ⟨59, 24, 59, 43⟩) ⟨59, 7, 59, 43⟩)
 (.cons (.ret (.cst .none ⟨60, 15, 60, 19⟩) ⟨60, 8, 60, 19⟩)
 .nil)
 .nil ⟨59, 4, 60, 19⟩)
 (.cons (.ite (.cmp .Eq (.idx (.loc 0 ⟨61, 7, 61, 11⟩) (.cst (.int 0) ⟨61, 12, 61, 13⟩) ⟨61, 7, 61, 14⟩) (.cst (.str "'") ⟨61, 18, 61, 21⟩) ⟨61, 7, 61, 21⟩)
 (.cons (.asg 2 ⟨62, 8, 62, 12⟩ (.call (.glob 5 ⟨62, 15, 62, 24⟩) (.cons (.slice (.loc 0 ⟨62, 25, 62, 29⟩) (.yes (.cst (.int 1) ⟨62, 30, 62, 31⟩)) (.yes (.neg (.cst (.int 1) ⟨62, 33, 62, 34⟩) ⟨62, 32, 62, 34⟩)) ⟨62, 30, 62, 34⟩ ⟨62, 25, 62, 35⟩) (.cons (.loc 1 ⟨62, 37, 62, 42⟩) (.cons (.cst (.str "<>\n\r\t'") ⟨62, 44, 62, 55⟩) .nil))) ⟨62, 15, 62, 56⟩) ⟨62, 8, 62, 56⟩)
 (.cons (.ret (.ite (.and2 (.cmp .IsNot (.loc 2 ⟨63, 23, 63, 27⟩) (.cst .none ⟨63, 35, 63, 39⟩) ⟨63, 23, 63, 39⟩) (.cmp .In (.cst (.str "\"") ⟨63, 44, 63, 47⟩) (.loc 2 ⟨63, 51, 63, 55⟩) ⟨63, 44, 63, 55⟩) ⟨63, 23, 63, 55⟩) (.loc 2 ⟨63, 15, 63, 19⟩) (.cst .none ⟨63, 61, 63, 65⟩) ⟨63, 15, 63, 65⟩) ⟨63, 8, 63, 65⟩)
 .nil))
 .nil ⟨61, 4, 63, 65⟩)
 (.cons (.ite (.cmp .NotEq (.idx (.loc 0 ⟨64, 7, 64, 11⟩) (.cst (.int 0) ⟨64, 12, 64, 13⟩) ⟨64, 7, 64, 14⟩) (.cst (.str "\"") ⟨64, 18, 64, 21⟩) ⟨64, 7, 64, 21⟩)
 (.cons (.ret (.cst .none ⟨65, 15, 65, 19⟩) ⟨65, 8, 65, 19⟩)
 .nil)
 .nil ⟨64, 4, 65, 19⟩)
 (.cons (.sets (.loc 1 ⟨66, 4, 66, 9⟩) (.cst (.str "&quot;") ⟨66, 10, 66, 18⟩) ⟨66, 4, 66, 19⟩ (.cst (.str "\"") ⟨66, 22, 66, 25⟩) ⟨66, 4, 66, 25⟩)
 (.cons (.asg 2 ⟨67, 4, 67, 8⟩ (.call (.glob 5 ⟨67, 11, 67, 20⟩) (.cons (.slice (.loc 0 ⟨67, 21, 67, 25⟩) (.yes (.cst (.int 1) ⟨67, 26, 67, 27⟩)) (.yes (.neg (.cst (.int 1) ⟨67, 29, 67, 30⟩) ⟨67, 28, 67, 30⟩)) ⟨67, 26, 67, 30⟩ ⟨67, 21, 67, 31⟩) (.cons (.loc 1 ⟨67, 33, 67, 38⟩) (.cons (.cst (.str "<>\n\r\t\"") ⟨67, 40, 67, 51⟩) .nil))) ⟨67, 11, 67, 52⟩) ⟨67, 4, 67, 52⟩)
 (.cons (.ret (.ite (.and3 (.cmp .IsNot (.loc 2 ⟨68, 19, 68, 23⟩) (.cst .none ⟨68, 31, 68, 35⟩) ⟨68, 19, 68, 35⟩) (.cmp .In (.cst (.str "\"") ⟨68, 40, 68, 43⟩) (.loc 2 ⟨68, 47, 68, 51⟩) ⟨68, 40, 68, 51⟩) (.cmp .NotIn (.cst (.str "'") ⟨68, 57, 68, 60⟩) (.loc 2 ⟨68, 68, 68, 72⟩) ⟨68, 57, 68, 72⟩) ⟨68, 19, 68, 73⟩) (.cst .none ⟨68, 11, 68, 15⟩) (.loc 2 ⟨68, 79, 68, 83⟩) ⟨68, 11, 68, 83⟩) ⟨68, 4, 68, 83⟩)
 .nil)))))))
noncomputable def nm_law_plain : Nm := ⟨[Str.ofString "data"], fnames⟩
noncomputable def b_law_plain : MSs :=
 (.cons (.ret (.call (.glob 1 ⟨70, 11, 70, 17⟩) (.cons (.loc 0 ⟨70, 18, 70, 22⟩) .nil) ⟨70, 11, 70, 23⟩) ⟨70, 4, 70, 23⟩)
 .nil)
noncomputable def nm_law_marked : Nm := ⟨[Str.ofString "data"], fnames⟩
noncomputable def b_law_marked : MSs :=
 (.cons (.ret (.call (.glob 1 ⟨72, 11, 72, 17⟩) (.cons (.loc 0 ⟨72, 18, 72, 22⟩) (.cons (.dict .no (.cons (.cst (.str "\"") ⟨72, 25, 72, 28⟩) .nil) (.cons (.cst (.str "&quot;") ⟨72, 30, 72, 38⟩) .nil) ⟨72, 24, 72, 39⟩) .nil)) ⟨72, 11, 72, 40⟩) ⟨72, 4, 72, 40⟩)
 .nil)
noncomputable def nm_law_asked : Nm := ⟨[Str.ofString "writer", Str.ofString "text", Str.ofString "read", Str.ofString "back", Str.ofString "k"], fnames⟩
noncomputable def b_law_asked : MSs :=
 (.cons (.ite (.cmp .Is (.loc 2 ⟨74, 7, 74, 11⟩) (.cst .none ⟨74, 15, 74, 19⟩) ⟨74, 7, 74, 19⟩)
 (.cons (.ret (.cmp .NotEq (.call (.loc 0 ⟨75, 15, 75, 21⟩) (.cons (.loc 3 ⟨75, 22, 75, 26⟩) .nil) ⟨75, 15, 75, 27⟩) (.loc 1 ⟨75, 31, 75, 35⟩) ⟨75, 15, 75, 35⟩) ⟨75, 8, 75, 35⟩)
 .nil)
 .nil ⟨74, 4, 75, 35⟩)
 (.cons (.ite (.or2 (.cmp .NotEq (.call (.loc 0 ⟨76, 7, 76, 13⟩) (.cons (.loc 2 ⟨76, 14, 76, 18⟩) .nil) ⟨76, 7, 76, 19⟩) (.loc 1 ⟨76, 23, 76, 27⟩) ⟨76, 7, 76, 27⟩) (.cmp .NotEq (.loc 3 ⟨76, 31, 76, 35⟩) (.loc 2 ⟨76, 39, 76, 43⟩) ⟨76, 31, 76, 43⟩) ⟨76, 7, 76, 43⟩)
 (.cons (.ret (.cst (.bool false) ⟨77, 15, 77, 20⟩) ⟨77, 8, 77, 20⟩)
 .nil)
 .nil ⟨76, 4, 77, 20⟩)
 (.cons (.for1 4 ⟨78, 8, 78, 9⟩ (.bcall .range ⟨78, 13, 78, 18⟩ (.cons (.bcall .min ⟨78, 19, 78, 22⟩ (.cons (.bcall .len ⟨78, 23, 78, 26⟩ (.cons (.loc 2 ⟨78, 27, 78, 31⟩) .nil) ⟨78, 23, 78, 32⟩) (.cons (.cst (.int 20) ⟨78, 34, 78, 36⟩) .nil)) ⟨78, 19, 78, 37⟩) .nil) ⟨78, 13, 78, 38⟩)
 (.cons (.ite (.cmp .Eq (.call (.loc 0 ⟨79, 11, 79, 17⟩) (.cons (.bin .Add (.slice (.loc 2 ⟨79, 18, 79, 22⟩) .no (.yes (.loc 4 ⟨79, 24, 79, 25⟩)) ⟨79, 23, 79, 25⟩ ⟨79, 18, 79, 26⟩) (.slice (.loc 2 ⟨79, 29, 79, 33⟩) (.yes (.bin .Add (.loc 4 ⟨79, 34, 79, 35⟩) (.cst (.int 1) ⟨79, 38, 79, 39⟩) ⟨79, 34, 79, 39⟩)) .no ⟨79, 34, 79, 40⟩ ⟨79, 29, 79, 41⟩) ⟨79, 18, 79, 41⟩) .nil) ⟨79, 11, 79, 42⟩) (.loc 1 ⟨79, 46, 79, 50⟩) ⟨79, 11, 79, 50⟩)
 (.cons (.ret (.cst (.bool false) ⟨80, 19, 80, 24⟩) ⟨80, 12, 80, 24⟩)
 .nil)
 .nil ⟨79, 8, 80, 24⟩)
 .nil) ⟨78, 4, 80, 24⟩)
 (.cons (.ret (.cst (.bool true) ⟨81, 11, 81, 15⟩) ⟨81, 4, 81, 15⟩)
 .nil))))
noncomputable def nm_law : Nm := ⟨[Str.ofString "script", Str.ofString "text", Str.ofString "known", Str.ofString "names"], fnames⟩
noncomputable def b_law : MSs :=
 (.cons (.asg 1 ⟨83, 4, 83, 8⟩ (.call (.glob 4 ⟨83, 11, 83, 22⟩) (.cons (.loc 0 ⟨83, 23, 83, 29⟩) .nil) ⟨83, 11, 83, 30⟩) ⟨83, 4, 83, 30⟩)
 (.cons (.ite (.cmp .Eq (.bin .Mod (.bcall .len ⟨84, 7, 84, 10⟩ (.cons (.loc 0 ⟨84, 11, 84, 17⟩) .nil) ⟨84, 7, 84, 18⟩) (.cst (.int 3) ⟨84, 21, 84, 22⟩) ⟨84, 7, 84, 22⟩) (.cst (.int 1) ⟨84, 26, 84, 27⟩) ⟨84, 7, 84, 27⟩)
 (.cons (.asg 1 ⟨85, 8, 85, 12⟩ (.bin .Add (.bin .Add (.cst (.str "'") ⟨85, 15, 85, 18⟩) (.loc 1 ⟨85, 21, 85, 25⟩) ⟨85, 15, 85, 25⟩) (.cst (.str "'") ⟨85, 28, 85, 31⟩) ⟨85, 15, 85, 31⟩) ⟨85, 8, 85, 31⟩)
 .nil)
 .nil ⟨84, 4, 85, 31⟩)
 (.cons (.ite (.cmp .Eq (.bin .Mod (.bcall .len ⟨86, 7, 86, 10⟩ (.cons (.loc 0 ⟨86, 11, 86, 17⟩) .nil) ⟨86, 7, 86, 18⟩) (.cst (.int 3) ⟨86, 21, 86, 22⟩) ⟨86, 7, 86, 22⟩) (.cst (.int 2) ⟨86, 26, 86, 27⟩) ⟨86, 7, 86, 27⟩)
 (.cons (.asg 1 ⟨87, 8, 87, 12⟩ (.bin .Add (.bin .Add (.cst (.str "\"") ⟨87, 15, 87, 18⟩) (.loc 1 ⟨87, 21, 87, 25⟩) ⟨87, 15, 87, 25⟩) (.cst (.str "\"") ⟨87, 28, 87, 31⟩) ⟨87, 15, 87, 31⟩) ⟨87, 8, 87, 31⟩)
 .nil)
 .nil ⟨86, 4, 87, 31⟩)
 (.cons (.asg 2 ⟨88, 4, 88, 9⟩ (.dict .no (.cons (.cst (.str "&amp;") ⟨88, 13, 88, 20⟩) (.cons (.cst (.str "&lt;") ⟨88, 27, 88, 33⟩) (.cons (.cst (.str "&gt;") ⟨88, 40, 88, 46⟩) .nil))) (.cons (.cst (.str "&") ⟨88, 22, 88, 25⟩) (.cons (.cst (.str "<") ⟨88, 35, 88, 38⟩) (.cons (.cst (.str ">") ⟨88, 48, 88, 51⟩) .nil))) ⟨88, 12, 88, 52⟩) ⟨88, 4, 88, 52⟩)
 (.cons (.ite (.not (.call (.glob 9 ⟨89, 11, 89, 21⟩) (.cons (.glob 7 ⟨89, 22, 89, 32⟩) (.cons (.loc 1 ⟨89, 34, 89, 38⟩) (.cons (.call (.glob 5 ⟨89, 40, 89, 49⟩) (.cons (.loc 1 ⟨89, 50, 89, 54⟩) (.cons (.loc 2 ⟨89, 56, 89, 61⟩) (.cons (.cst (.str "<>") ⟨89, 63, 89, 67⟩) .nil))) ⟨89, 40, 89, 68⟩) (.cons (.call (.glob 2 ⟨89, 70, 89, 78⟩) (.cons (.loc 1 ⟨89, 79, 89, 83⟩) .nil) ⟨89, 70, 89, 84⟩) .nil)))) ⟨89, 11, 89, 85⟩) ⟨89, 7, 89, 85⟩)
 (.cons (.ret (.cst (.bool false) ⟨90, 15, 90, 20⟩) ⟨90, 8, 90, 20⟩)
 .nil)
 .nil ⟨89, 4, 90, 20⟩)
 (.cons (.sets (.loc 2 ⟨91, 4, 91, 9⟩) (.cst (.str "&quot;") ⟨91, 10, 91, 18⟩) ⟨91, 4, 91, 19⟩ (.cst (.str "\"") ⟨91, 22, 91, 25⟩) ⟨91, 4, 91, 25⟩)
 (.cons (.ite (.not (.call (.glob 9 ⟨92, 11, 92, 21⟩) (.cons (.glob 8 ⟨92, 22, 92, 33⟩) (.cons (.loc 1 ⟨92, 35, 92, 39⟩) (.cons (.call (.glob 5 ⟨92, 41, 92, 50⟩) (.cons (.loc 1 ⟨92, 51, 92, 55⟩) (.cons (.loc 2 ⟨92, 57, 92, 62⟩) (.cons (.cst (.str "<>\"") ⟨92, 64, 92, 69⟩) .nil))) ⟨92, 41, 92, 70⟩) (.cons (.call (.glob 2 ⟨92, 72, 92, 80⟩) (.cons (.loc 1 ⟨92, 81, 92, 85⟩) (.cons (.dict .no (.cons (.cst (.str "&quot;") ⟨92, 88, 92, 96⟩) .nil) (.cons (.cst (.str "\"") ⟨92, 98, 92, 101⟩) .nil) ⟨92, 87, 92, 102⟩) .nil)) ⟨92, 72, 92, 103⟩) .nil)))) ⟨92, 11, 92, 104⟩) ⟨92, 7, 92, 104⟩)
 (.cons (.ret (.cst (.bool false) ⟨93, 15, 93, 20⟩) ⟨93, 8, 93, 20⟩)
 .nil)
 .nil ⟨92, 4, 93, 20⟩)
 (.cons (.asg 3 ⟨94, 4, 94, 9⟩ (.dict .no (.cons (.cst (.str "&#10;") ⟨94, 13, 94, 20⟩) (.cons (.cst (.str "&#13;") ⟨94, 28, 94, 35⟩) (.cons (.cst (.str "&#9;") ⟨94, 43, 94, 49⟩) .nil))) (.cons (.cst (.str "\n") ⟨94, 22, 94, 26⟩) (.cons (.cst (.str "\r") ⟨94, 37, 94, 41⟩) (.cons (.cst (.str "\t") ⟨94, 51, 94, 55⟩) .nil))) ⟨94, 12, 94, 56⟩) ⟨94, 4, 94, 56⟩)
 (.cons (.ite (.cmp .Eq (.slice (.loc 1 ⟨95, 7, 95, 11⟩) .no (.yes (.cst (.int 1) ⟨95, 13, 95, 14⟩)) ⟨95, 12, 95, 14⟩ ⟨95, 7, 95, 15⟩) (.cst (.str "\"") ⟨95, 19, 95, 22⟩) ⟨95, 7, 95, 22⟩)
 (.cons (.sets (.loc 3 ⟨96, 8, 96, 13⟩) (.cst (.str "&quot;") ⟨96, 14, 96, 22⟩) ⟨96, 8, 96, 23⟩ (.cst (.str "\"") ⟨96, 26, 96, 29⟩) ⟨96, 8, 96, 29⟩)
 .nil)
 .nil ⟨95, 4, 96, 29⟩)
 (.cons (.ret (.call (.glob 9 ⟨97, 11, 97, 21⟩) (.cons (.glob 3 ⟨97, 22, 97, 31⟩) (.cons (.loc 1 ⟨97, 33, 97, 37⟩) (.cons (.call (.glob 6 ⟨97, 39, 97, 50⟩) (.cons (.loc 1 ⟨97, 51, 97, 55⟩) .nil) ⟨97, 39, 97, 56⟩) (.cons (.call (.glob 2 ⟨97, 58, 97, 66⟩) (.cons (.slice (.loc 1 ⟨97, 67, 97, 71⟩) (.yes (.cst (.int 1) ⟨97, 72, 97, 73⟩)) (.yes (.neg (.cst (.int 1) ⟨97, 75, 97, 76⟩) ⟨97, 74, 97, 76⟩)) ⟨97, 72, 97, 76⟩ ⟨97, 67, 97, 77⟩) (.cons (.loc 3 ⟨97, 79, 97, 84⟩) .nil)) ⟨97, 58, 97, 85⟩) .nil)))) ⟨97, 11, 97, 86⟩) ⟨97, 4, 97, 86⟩)
 .nil))))))))))
noncomputable def funs : List Fn := [⟨2, 4, b_dict_replace_saxutils, .none⟩,
  ⟨2, 2, b_escape, (some 1)⟩,
  ⟨2, 2, b_unescape, (some 2)⟩,
  ⟨2, 2, b_quoteattr, (some 3)⟩,
  ⟨1, 6, b_law_pieces, .none⟩,
  ⟨3, 8, b_law_read, .none⟩,
  ⟨1, 3, b_law_quoted, .none⟩,
  ⟨1, 1, b_law_plain, .none⟩,
  ⟨1, 1, b_law_marked, .none⟩,
  ⟨4, 5, b_law_asked, .none⟩,
  ⟨1, 4, b_law, .none⟩]
end Mine

end

section
open PySem
namespace Mine

/-! texts as lists of signs: replace, words, codes -/
theorem repl_fuel {y z : List Nat} (hy : y ≠ []) : ∀ {n m : Nat} {l : List Nat}, l.length ≤ n → l.length ≤ m → repl y z n l = repl y z m l
  | 0, 0, _, _, _ => rfl
  | 0, m + 1, [], _, _ => rfl
  | n + 1, 0, [], _, _ => rfl
  | n + 1, m + 1, [], _, _ => rfl
  | 0, _, _ :: _, h, _ => by simp at h
  | _, 0, _ :: _, _, h => by simp at h
  | n + 1, m + 1, c :: r, h1, h2 => by
    have yl : 1 ≤ y.length := by cases y with | nil => exact absurd rfl hy | cons => simp
    simp only [List.length_cons] at h1 h2
    unfold repl
    rw [repl_fuel hy (n := n) (m := m) (l := r) (by omega) (by omega), repl_fuel hy (n := n) (m := m) (l := (c :: r).drop y.length) (by simp; omega) (by simp; omega)]
theorem replace_nil {y z : List Nat} : replace y z [] = [] := rfl
theorem replace_cons {y z : List Nat} (hy : y ≠ []) (c : Nat) (r : List Nat) : replace y z (c :: r) = if y.isPrefixOf (c :: r) then z ++ replace y z ((c :: r).drop y.length) else c :: replace y z r := by
  have yl : 1 ≤ y.length := by cases y with | nil => exact absurd rfl hy | cons => simp
  unfold replace
  show repl y z (r.length + 1) (c :: r) = _
  rw [repl]
  rw [repl_fuel hy (n := r.length) (m := ((c :: r).drop y.length).length) (l := (c :: r).drop y.length) (by simp; omega) (Nat.le_refl _)]
/-- single signs -/
theorem replace_one {c : Nat} {z : List Nat} : ∀ l : List Nat, replace [c] z l = l.flatMap fun x => if x = c then z else [x]
  | [] => rfl
  | x :: r => by
    rw [replace_cons (by simp), List.flatMap_cons, ← replace_one r]
    by_cases h : x = c
    · subst h
      simp [List.isPrefixOf]
    · have : ([c].isPrefixOf (x :: r)) = false := by simp [List.isPrefixOf, Ne.symm h]
      rw [this]
      simp [h]
theorem replace_hit {y z r : List Nat} (hy : y ≠ []) : replace y z (y ++ r) = z ++ replace y z r := by
  cases y with
  | nil => exact absurd rfl hy
  | cons a y =>
    rw [List.cons_append, replace_cons hy]
    have : ((a :: y).isPrefixOf (a :: (y ++ r))) = true := isP_iff.mpr ⟨r, rfl⟩
    rw [this, if_pos rfl]
    congr 2
    rw [← List.cons_append, List.drop_left]
theorem replace_skip {y z : List Nat} (hy : y.head? = some 38) : ∀ (v r : List Nat), 38 ∉ v → replace y z (v ++ r) = v ++ replace y z r
  | [], r, _ => rfl
  | c :: v, r, h => by
    have hy0 : y ≠ [] := by rintro rfl; cases hy
    rw [List.cons_append, replace_cons hy0, List.cons_append, ← replace_skip hy v r fun q => h (.tail _ q)]
    cases y with
    | nil => cases hy
    | cons a y =>
      cases hy
      have : ((38 :: y).isPrefixOf (c :: (v ++ r))) = false := by
        simp only [List.isPrefixOf, Bool.and_eq_false_iff, beq_eq_false_iff_ne]
        exact .inl fun e => h (e ▸ .head _)
      rw [this]; rfl

noncomputable def isWord (w : List Nat) : Prop := ∃ u, w = 38 :: (u ++ [59]) ∧ 59 ∉ u ∧ 38 ∉ u
theorem split_first : ∀ {u v t r : List Nat}, 59 ∉ u → 59 ∉ v → u ++ 59 :: t = v ++ 59 :: r → u = v
  | [], [], _, _, _, _, _ => rfl
  | [], c :: v, _, _, _, h2, e => by
    injection e with e1 e2
    exact absurd (e1 ▸ .head _) h2
  | c :: u, [], _, _, h1, _, e => by
    injection e with e1 e2
    exact absurd (e1 ▸ .head _) h1
  | c :: u, d :: v, _, _, h1, h2, e => by
    injection e with e1 e2
    rw [e1, split_first (fun q => h1 (.tail _ q)) (fun q => h2 (.tail _ q)) e2]
theorem word_prefix {y c r : List Nat} (hy : isWord y) (hc : isWord c) (h : y <+: c ++ r) : y = c := by
  obtain ⟨u, rfl, u1, _⟩ := hy
  obtain ⟨v, rfl, v1, _⟩ := hc
  obtain ⟨t, e⟩ := h
  simp only [List.cons_append, List.append_assoc, List.singleton_append, List.cons.injEq, true_and] at e
  rw [split_first u1 v1 e]
theorem isWord.head {y : List Nat} (h : isWord y) : y.head? = some 38 := by obtain ⟨u, rfl, _⟩ := h; rfl
theorem isWord.ne {y : List Nat} (h : isWord y) : y ≠ [] := by obtain ⟨u, rfl, _⟩ := h; simp

/-- a code's words: a reference, or a single sign that is no & -/
noncomputable def okCode (w : List Nat) : Prop := isWord w ∨ ∃ c, w = [c] ∧ c ≠ 38
theorem replace_code {y z : List Nat} (hy : isWord y) {code : Nat → List Nat} : ∀ l : List Nat, (∀ x ∈ l, okCode (code x)) → replace y z (l.flatMap code) = l.flatMap fun x => if code x = y then z else code x
  | [], _ => rfl
  | x :: r, h => by
    have ih := replace_code hy (z := z) r fun q hq => h q (.tail _ hq)
    rw [List.flatMap_cons, List.flatMap_cons, ← ih]
    rcases h x (.head _) with hw | ⟨c, hc, hc2⟩
    · by_cases e : code x = y
      · rw [if_pos e, e, replace_hit hy.ne]
      · rw [if_neg e]
        obtain ⟨v, hv, v1, v2⟩ := id hw
        have np : y.isPrefixOf (code x ++ r.flatMap code) = false := by
          cases q : y.isPrefixOf (code x ++ r.flatMap code) with
          | false => rfl
          | true => exact absurd (word_prefix hy hw (isP_iff.mp q)).symm e
        rw [hv] at np ⊢
        rw [List.cons_append] at np ⊢
        rw [replace_cons hy.ne, np]
        rw [if_neg Bool.false_ne_true, replace_skip hy.head (v ++ [59]) _ (by simp [v2])]
        rfl
    · have : code x ≠ y := by
        rintro e
        obtain ⟨u, hu, _⟩ := hy
        rw [hc, hu] at e
        injection e with e1 e2
        exact hc2 e1
      rw [if_neg this, hc, replace_skip hy.head [c] _ (by simpa using Ne.symm hc2)]

/-! reading -/
noncomputable def pick (names : List (List Nat)) (sg : List Nat → List Nat) (l : List Nat) : List Nat × Nat := names.foldl (fun a nm => if l.take nm.length = nm then (sg nm, nm.length) else a) ([38], 0)
noncomputable def rstep (names : List (List Nat)) (sg : List Nat → List Nat) (bare : List Nat) : List Nat → List Nat × Nat
  | [] => ([], 0)
  | c :: r => if c = 38 then pick names sg (c :: r) else if c ∈ bare then ([c], 0) else ([c], 1)
theorem rstep_cons {names : List (List Nat)} {sg : List Nat → List Nat} {bare : List Nat} {c : Nat} {r : List Nat} : rstep names sg bare (c :: r) = if c = 38 then pick names sg (c :: r) else if c ∈ bare then ([c], 0) else ([c], 1) := rfl
noncomputable def rd (names : List (List Nat)) (sg : List Nat → List Nat) (bare : List Nat) : Nat → List Nat → Option (List Nat)
  | _, [] => some []
  | 0, _ :: _ => none
  | n + 1, c :: r => if (rstep names sg bare (c :: r)).2 = 0 then none else (rd names sg bare n ((c :: r).drop (rstep names sg bare (c :: r)).2)).map fun l => (rstep names sg bare (c :: r)).1 ++ l
noncomputable def rdA (names : List (List Nat)) (sg : List Nat → List Nat) (bare : List Nat) (l : List Nat) : Option (List Nat) := rd names sg bare l.length l

theorem pick_aux {sg : List Nat → List Nat} {l : List Nat} : ∀ (names : List (List Nat)) (a : List Nat × Nat), names.foldl (fun a nm => if l.take nm.length = nm then (sg nm, nm.length) else a) a = a ∨ ∃ nm ∈ names, l.take nm.length = nm ∧ names.foldl (fun a nm => if l.take nm.length = nm then (sg nm, nm.length) else a) a = (sg nm, nm.length)
  | [], a => .inl rfl
  | nm :: r, a => by
    rw [List.foldl_cons]
    rcases pick_aux r (if l.take nm.length = nm then (sg nm, nm.length) else a) with h | ⟨m, h1, h2, h3⟩
    · by_cases e : l.take nm.length = nm
      · rw [if_pos e] at h ⊢
        exact .inr ⟨nm, .head _, e, h⟩
      · rw [if_neg e] at h ⊢
        exact .inl h
    · exact .inr ⟨m, .tail _ h1, h2, h3⟩
theorem take_iff {nm l : List Nat} : l.take nm.length = nm ↔ nm <+: l := by rw [List.prefix_iff_eq_take]; exact eq_comm
theorem pick_word {sg : List Nat → List Nat} {w r : List Nat} (hw : isWord w) : ∀ (names : List (List Nat)) (a : List Nat × Nat), (∀ nm ∈ names, isWord nm) → (w ∈ names ∨ a = (sg w, w.length)) → names.foldl (fun a nm => if (w ++ r).take nm.length = nm then (sg nm, nm.length) else a) a = (sg w, w.length)
  | [], a, _, h => by
    rcases h with h | h
    · cases h
    · exact h
  | nm :: names, a, hn, h => by
    rw [List.foldl_cons]
    refine pick_word hw names _ (fun q hq => hn q (.tail _ hq)) ?_
    by_cases e : (w ++ r).take nm.length = nm
    · have := word_prefix (hn nm (.head _)) hw (take_iff.mp e)
      subst this
      rw [if_pos e]
      exact .inr rfl
    · rw [if_neg e]
      rcases h with h | h
      · cases h with
        | head => exact absurd (take_iff.mpr ⟨r, rfl⟩) e
        | tail _ h => exact .inl h
      · exact .inr h

/-- a code that the reader knows -/
structure Knows (names : List (List Nat)) (sg : List Nat → List Nat) (bare : List Nat) (code : Nat → List Nat) : Prop where
  words : ∀ nm ∈ names, isWord nm
  sign : ∀ nm ∈ names, ∃ x, sg nm = [x] ∧ code x = nm
  plain : ∀ c, c ≠ 38 → c ∉ bare → code c = [c]
noncomputable def good (names : List (List Nat)) (sg : List Nat → List Nat) (bare : List Nat) (code : Nat → List Nat) (x : Nat) : Prop := (code x = [x] ∧ x ≠ 38 ∧ x ∉ bare) ∨ (code x ∈ names ∧ sg (code x) = [x])

section
variable {names : List (List Nat)} {sg : List Nat → List Nat} {bare : List Nat} {code : Nat → List Nat}
theorem code_ne (K : Knows names sg bare code) {x : Nat} (h : good names sg bare code x) : 1 ≤ (code x).length := by
  rcases h with ⟨h, _⟩ | ⟨h, _⟩
  · rw [h]; exact Nat.le_refl _
  · obtain ⟨u, e, _⟩ := K.words _ h
    rw [e]; simp
theorem rd_code (K : Knows names sg bare code) : ∀ (l : List Nat) (n : Nat), (∀ x ∈ l, good names sg bare code x) → (l.flatMap code).length ≤ n → rd names sg bare n (l.flatMap code) = some l
  | [], n, _, _ => by cases n <;> rfl
  | x :: l, n, h, hn => by
    have h1 := code_ne K (h x (.head _))
    rw [List.flatMap_cons] at hn ⊢
    rw [List.length_append] at hn
    obtain ⟨n, rfl⟩ : ∃ m, n = m + 1 := ⟨n - 1, by omega⟩
    have ih := rd_code K l n (fun q hq => h q (.tail _ hq)) (by omega)
    have step : rstep names sg bare (code x ++ l.flatMap code) = ([x], (code x).length) := by
      rcases h x (.head _) with ⟨e, h2, h3⟩ | ⟨e, h2⟩
      · rw [e]; simp only [List.singleton_append, rstep]; rw [if_neg h2, if_neg h3]; rfl
      · obtain ⟨u, hu, _⟩ := id (K.words _ e)
        have := pick_word (sg := sg) (r := l.flatMap code) (K.words _ e) names ([38], 0) K.words (.inl e)
        rw [h2] at this
        rw [← this]
        show rstep names sg bare (code x ++ l.flatMap code) = pick names sg (code x ++ l.flatMap code)
        rw [hu]
        simp [rstep]
    have hd : (code x ++ l.flatMap code).drop (code x).length = l.flatMap code := List.drop_left
    revert step hd
    cases hc : code x ++ l.flatMap code with
    | nil =>
      have : (code x).length = 0 := by have := congrArg List.length hc; simp at this; rw [this.1]; rfl
      omega
    | cons c r =>
      intro step hd
      rw [rd, step, if_neg (by show (code x).length ≠ 0; omega)]
      show Option.map _ (rd names sg bare n ((c :: r).drop (code x).length)) = _
      rw [hd, ih]
      rfl
theorem rd_sound (K : Knows names sg bare code) : ∀ (n : Nat) (t l : List Nat), rd names sg bare n t = some l → t = l.flatMap code ∧ ∀ x ∈ l, good names sg bare code x
  | n, [], l, e => by
    have : l = [] := by cases n <;> (rw [rd] at e; cases e; rfl)
    subst this
    exact ⟨rfl, fun x h => by cases h⟩
  | 0, _ :: _, _, e => by cases e
  | n + 1, c :: r, l, e => by
    rw [rd] at e
    split at e
    · cases e
    · rename_i hne
      obtain ⟨l', e1, rfl⟩ := Option.map_eq_some_iff.mp e
      obtain ⟨h1, h2⟩ := rd_sound K n _ _ e1
      have key : ∃ x, (rstep names sg bare (c :: r)).1 = [x] ∧ good names sg bare code x ∧ (c :: r) = code x ++ (c :: r).drop (rstep names sg bare (c :: r)).2 := by
        rw [rstep_cons] at hne ⊢
        by_cases hc : c = 38
        · rw [if_pos hc] at hne ⊢
          rcases pick_aux (sg := sg) (l := c :: r) names ([38], 0) with h | ⟨nm, h3, h4, h5⟩
          · exact absurd (congrArg Prod.snd h) hne
          · obtain ⟨x, hx, hcode⟩ := K.sign nm h3
            refine ⟨x, (congrArg Prod.fst h5).trans hx, .inr ⟨by rw [hcode]; exact h3, by rw [hcode]; exact hx⟩, ?_⟩
            rw [hcode, show (pick names sg (c :: r)).2 = nm.length from congrArg Prod.snd h5]
            have := List.take_append_drop nm.length (c :: r)
            rw [h4] at this
            exact this.symm
        · rw [if_neg hc] at hne ⊢
          split at hne
          · exact absurd rfl hne
          · rename_i hb
            rw [if_neg hb]
            exact ⟨c, rfl, .inl ⟨K.plain c hc hb, hc, hb⟩, by rw [K.plain c hc hb]; rfl⟩
      obtain ⟨x, hx, hg, hcat⟩ := key
      rw [hx]
      refine ⟨?_, ?_⟩
      · rw [h1] at hcat
        rw [hcat]; rfl
      · intro q hq
        cases hq with
        | head => exact hg
        | tail _ hq => exact h2 q hq
theorem rdA_code (K : Knows names sg bare code) {l : List Nat} (h : ∀ x ∈ l, good names sg bare code x) : rdA names sg bare (l.flatMap code) = some l := rd_code K l _ h (Nat.le_refl _)
theorem rdA_sound (K : Knows names sg bare code) {t l : List Nat} (e : rdA names sg bare t = some l) : t = l.flatMap code ∧ ∀ x ∈ l, good names sg bare code x := rd_sound K _ t l e
end
end Mine

end

section
open PySem
namespace Mine

/-! the writers of the law, and their readers -/
noncomputable def amp : List Nat := lit "&amp;"
noncomputable def code3 (x : Nat) : List Nat := if x = 38 then lit "&amp;" else if x = 62 then lit "&gt;" else if x = 60 then lit "&lt;" else [x]
noncomputable def code4 (x : Nat) : List Nat := if x = 34 then lit "&quot;" else code3 x
noncomputable def code6 (x : Nat) : List Nat := if x = 10 then lit "&#10;" else if x = 13 then lit "&#13;" else if x = 9 then lit "&#9;" else code3 x
noncomputable def code7 (x : Nat) : List Nat := if x = 34 then lit "&quot;" else code6 x
noncomputable def names3 : List (List Nat) := [lit "&amp;", lit "&lt;", lit "&gt;"]
noncomputable def names4 : List (List Nat) := names3 ++ [lit "&quot;"]
noncomputable def names6 : List (List Nat) := names3 ++ [lit "&#10;", lit "&#13;", lit "&#9;"]
noncomputable def names7 : List (List Nat) := names6 ++ [lit "&quot;"]
noncomputable def sg (w : List Nat) : List Nat :=
  if w = lit "&amp;" then [38] else if w = lit "&lt;" then [60] else if w = lit "&gt;" then [62] else if w = lit "&quot;" then [34] else if w = lit "&#10;" then [10] else if w = lit "&#13;" then [13] else [9]

noncomputable def E3 (l : List Nat) : List Nat := replace (lit "<") (lit "&lt;") (replace (lit ">") (lit "&gt;") (replace (lit "&") (lit "&amp;") l))
noncomputable def EE (es : List (List Nat × List Nat)) (l : List Nat) : List Nat := es.foldl (fun l e => replace e.1 e.2 l) (E3 l)
noncomputable def UU (es : List (List Nat × List Nat)) (l : List Nat) : List Nat := replace (lit "&amp;") (lit "&") (es.foldl (fun l e => replace e.1 e.2 l) (replace (lit "&gt;") (lit ">") (replace (lit "&lt;") (lit "<") l)))

theorem flat_flat {f g : Nat → List Nat} (l : List Nat) : (l.flatMap g).flatMap f = l.flatMap fun x => (g x).flatMap f := List.flatMap_assoc
theorem flat_congr {f g : Nat → List Nat} {l : List Nat} (h : ∀ x ∈ l, f x = g x) : l.flatMap f = l.flatMap g := by
  induction l with
  | nil => rfl
  | cons x r ih => rw [List.flatMap_cons, List.flatMap_cons, h x (.head _), ih fun q hq => h q (.tail _ hq)]
theorem flat_one (l : List Nat) : (l.flatMap fun x => [x]) = l := by
  induction l with
  | nil => rfl
  | cons x r ih => rw [List.flatMap_cons, ih]; rfl

theorem E3_code (l : List Nat) : E3 l = l.flatMap code3 := by
  unfold E3
  rw [show lit "<" = [60] from rfl, show lit ">" = [62] from rfl, show lit "&" = [38] from rfl, replace_one, replace_one, replace_one, flat_flat, flat_flat]
  refine flat_congr fun x _ => ?_
  unfold code3
  by_cases h1 : x = 38
  · subst h1; decide
  · by_cases h2 : x = 62
    · subst h2; decide
    · by_cases h3 : x = 60
      · subst h3; decide
      · simp [h1, h2, h3]
theorem E4_code (l : List Nat) : EE [(lit "\"", lit "&quot;")] l = l.flatMap code4 := by
  show replace (lit "\"") (lit "&quot;") (E3 l) = _
  rw [E3_code, show lit "\"" = [34] from rfl, replace_one, flat_flat]
  refine flat_congr fun x _ => ?_
  unfold code4 code3
  by_cases h0 : x = 34
  · subst h0; decide
  · by_cases h1 : x = 38
    · subst h1; decide
    · by_cases h2 : x = 62
      · subst h2; decide
      · by_cases h3 : x = 60
        · subst h3; decide
        · simp [h0, h1, h2, h3]
noncomputable def whites : List (List Nat × List Nat) := [(lit "\n", lit "&#10;"), (lit "\r", lit "&#13;"), (lit "\t", lit "&#9;")]
theorem E6_code (l : List Nat) : EE whites l = l.flatMap code6 := by
  show replace (lit "\t") (lit "&#9;") (replace (lit "\r") (lit "&#13;") (replace (lit "\n") (lit "&#10;") (E3 l))) = _
  rw [E3_code, show lit "\t" = [9] from rfl, show lit "\r" = [13] from rfl, show lit "\n" = [10] from rfl, replace_one, replace_one, replace_one, flat_flat, flat_flat, flat_flat]
  refine flat_congr fun x _ => ?_
  unfold code6 code3
  by_cases h4 : x = 10
  · subst h4; decide
  · by_cases h5 : x = 13
    · subst h5; decide
    · by_cases h6 : x = 9
      · subst h6; decide
      · by_cases h1 : x = 38
        · subst h1; decide
        · by_cases h2 : x = 62
          · subst h2; decide
          · by_cases h3 : x = 60
            · subst h3; decide
            · simp [h1, h2, h3, h4, h5, h6]
theorem E7_code (l : List Nat) : replace (lit "\"") (lit "&quot;") (l.flatMap code6) = l.flatMap code7 := by
  rw [show lit "\"" = [34] from rfl, replace_one, flat_flat]
  refine flat_congr fun x _ => ?_
  unfold code7 code6 code3
  by_cases h0 : x = 34
  · subst h0; decide
  · by_cases h4 : x = 10
    · subst h4; decide
    · by_cases h5 : x = 13
      · subst h5; decide
      · by_cases h6 : x = 9
        · subst h6; decide
        · by_cases h1 : x = 38
          · subst h1; decide
          · by_cases h2 : x = 62
            · subst h2; decide
            · by_cases h3 : x = 60
              · subst h3; decide
              · simp [h0, h1, h2, h3, h4, h5, h6]

/-! unescape undoes a code -/
noncomputable def codeS (code : Nat → List Nat) (S : List (List Nat)) (x : Nat) : List Nat := if code x ∈ S then [x] else code x
theorem U_step {code : Nat → List Nat} {S : List (List Nat)} {y z l : List Nat} (hy : isWord y) (hamp : amp ∉ S) (h38 : ∀ x, x = 38 → code x = amp) (hok : ∀ x, okCode (code x)) (hz : ∀ x, code x = y → z = [x]) :
    replace y z (l.flatMap (codeS code S)) = l.flatMap (codeS code (y :: S)) := by
  rw [replace_code hy]
  · refine flat_congr fun x _ => ?_
    unfold codeS
    have y1 : [x] ≠ y := by obtain ⟨u, hu, _⟩ := hy; rw [hu]; simp
    by_cases hS : code x ∈ S
    · rw [if_pos hS, if_neg y1, if_pos (.tail _ hS)]
    · rw [if_neg hS]
      by_cases e : code x = y
      · rw [if_pos e, if_pos (e ▸ .head _), hz x e]
      · rw [if_neg e, if_neg (by rw [List.mem_cons, not_or]; exact ⟨e, hS⟩)]
  · intro x _
    unfold codeS
    by_cases hS : code x ∈ S
    · rw [if_pos hS]
      exact .inr ⟨x, rfl, fun e => hamp (h38 x e ▸ hS)⟩
    · rw [if_neg hS]; exact hok x
theorem U_fold {code : Nat → List Nat} {l : List Nat} (h38 : ∀ x, x = 38 → code x = amp) (hok : ∀ x, okCode (code x)) : ∀ (ps : List (List Nat × List Nat)) (S : List (List Nat)), amp ∉ S → (∀ p ∈ ps, isWord p.1 ∧ p.1 ≠ amp ∧ ∀ x, code x = p.1 → p.2 = [x]) →
    ps.foldl (fun l e => replace e.1 e.2 l) (l.flatMap (codeS code S)) = l.flatMap (codeS code ((ps.map (·.1)).reverse ++ S)) ∧ amp ∉ (ps.map (·.1)).reverse ++ S
  | [], S, h, _ => ⟨rfl, h⟩
  | p :: ps, S, h, hp => by
    obtain ⟨h1, h2, h3⟩ := hp p (.head _)
    have hS : amp ∉ p.1 :: S := by rw [List.mem_cons, not_or]; exact ⟨Ne.symm h2, h⟩
    have ih := U_fold (l := l) h38 hok ps (p.1 :: S) hS fun q hq => hp q (.tail _ hq)
    rw [List.foldl_cons, U_step h1 h h38 hok h3]
    simpa using ih
theorem UU_code {code : Nat → List Nat} {es : List (List Nat × List Nat)} (l : List Nat) (h38 : ∀ x, x = 38 → code x = amp) (hok : ∀ x, okCode (code x)) (ha : ∀ x, code x = amp → x = 38)
    (hp : ∀ p ∈ (lit "&lt;", lit "<") :: (lit "&gt;", lit ">") :: es, isWord p.1 ∧ p.1 ≠ amp ∧ ∀ x, code x = p.1 → p.2 = [x])
    (hall : ∀ x ∈ l, code x = [x] ∨ code x = amp ∨ code x ∈ ((lit "&lt;", lit "<") :: (lit "&gt;", lit ">") :: es).map (·.1)) : UU es (l.flatMap code) = l := by
  have h0 : l.flatMap code = l.flatMap (codeS code []) := flat_congr fun x _ => by unfold codeS; rw [if_neg (by simp)]
  obtain ⟨h1, h2⟩ := U_fold (l := l) h38 hok _ [] (by simp) hp
  show replace (lit "&amp;") (lit "&") (((lit "&lt;", lit "<") :: (lit "&gt;", lit ">") :: es).foldl (fun l e => replace e.1 e.2 l) (l.flatMap code)) = l
  rw [h0, h1, show lit "&amp;" = amp from rfl, U_step ⟨[97, 109, 112], by decide, by decide, by decide⟩ h2 h38 hok (fun x e => by rw [ha x e]; decide)]
  refine (flat_congr fun x hx => ?_).trans (flat_one l)
  unfold codeS
  rcases hall x hx with e | e | e
  · rw [e]; split <;> rfl
  · rw [if_pos (e ▸ .head _)]
  · rw [if_pos (List.mem_cons_of_mem _ (by rw [List.append_nil, List.mem_reverse]; exact e))]
end Mine

end

section
open PySem
namespace Mine

theorem w_amp : isWord (lit "&amp;") := ⟨[97, 109, 112], by decide, by decide, by decide⟩
theorem w_lt : isWord (lit "&lt;") := ⟨[108, 116], by decide, by decide, by decide⟩
theorem w_gt : isWord (lit "&gt;") := ⟨[103, 116], by decide, by decide, by decide⟩
theorem w_quot : isWord (lit "&quot;") := ⟨[113, 117, 111, 116], by decide, by decide, by decide⟩
theorem w_10 : isWord (lit "&#10;") := ⟨[35, 49, 48], by decide, by decide, by decide⟩
theorem w_13 : isWord (lit "&#13;") := ⟨[35, 49, 51], by decide, by decide, by decide⟩
theorem w_9 : isWord (lit "&#9;") := ⟨[35, 57], by decide, by decide, by decide⟩

theorem cases7 {P : Nat → Prop} (a : P 34) (b : P 10) (c : P 13) (d : P 9) (e : P 38) (f : P 62) (g : P 60) (o : ∀ x, x ≠ 34 → x ≠ 10 → x ≠ 13 → x ≠ 9 → x ≠ 38 → x ≠ 62 → x ≠ 60 → P x) (x : Nat) : P x := by
  by_cases h1 : x = 34
  · exact h1 ▸ a
  by_cases h2 : x = 10
  · exact h2 ▸ b
  by_cases h3 : x = 13
  · exact h3 ▸ c
  by_cases h4 : x = 9
  · exact h4 ▸ d
  by_cases h5 : x = 38
  · exact h5 ▸ e
  by_cases h6 : x = 62
  · exact h6 ▸ f
  by_cases h7 : x = 60
  · exact h7 ▸ g
  exact o x h1 h2 h3 h4 h5 h6 h7

theorem ok3 (x : Nat) : okCode (code3 x) := by
  refine cases7 (P := fun x => okCode (code3 x)) (.inr ⟨34, rfl, by decide⟩) (.inr ⟨10, rfl, by decide⟩) (.inr ⟨13, rfl, by decide⟩) (.inr ⟨9, rfl, by decide⟩) (.inl w_amp) (.inl w_gt) (.inl w_lt) (fun x _ _ _ _ h5 h6 h7 => .inr ⟨x, by simp [code3, h5, h6, h7], h5⟩) x
theorem ok4 (x : Nat) : okCode (code4 x) := by
  refine cases7 (P := fun x => okCode (code4 x)) (.inl w_quot) (.inr ⟨10, rfl, by decide⟩) (.inr ⟨13, rfl, by decide⟩) (.inr ⟨9, rfl, by decide⟩) (.inl w_amp) (.inl w_gt) (.inl w_lt) (fun x h1 _ _ _ h5 h6 h7 => .inr ⟨x, by simp [code4, code3, h1, h5, h6, h7], h5⟩) x
theorem ok6 (x : Nat) : okCode (code6 x) := by
  refine cases7 (P := fun x => okCode (code6 x)) (.inr ⟨34, rfl, by decide⟩) (.inl w_10) (.inl w_13) (.inl w_9) (.inl w_amp) (.inl w_gt) (.inl w_lt) (fun x h1 h2 h3 h4 h5 h6 h7 => .inr ⟨x, by simp [code6, code3, h2, h3, h4, h5, h6, h7], h5⟩) x
theorem ok7 (x : Nat) : okCode (code7 x) := by
  refine cases7 (P := fun x => okCode (code7 x)) (.inl w_quot) (.inl w_10) (.inl w_13) (.inl w_9) (.inl w_amp) (.inl w_gt) (.inl w_lt) (fun x h1 h2 h3 h4 h5 h6 h7 => .inr ⟨x, by simp [code7, code6, code3, h1, h2, h3, h4, h5, h6, h7], h5⟩) x

theorem one3 {x : Nat} (h5 : x ≠ 38) (h6 : x ≠ 62) (h7 : x ≠ 60) : code3 x = [x] := by simp [code3, h5, h6, h7]
theorem one4 {x : Nat} (h1 : x ≠ 34) (h5 : x ≠ 38) (h6 : x ≠ 62) (h7 : x ≠ 60) : code4 x = [x] := by simp [code4, code3, h1, h5, h6, h7]
theorem one6 {x : Nat} (h2 : x ≠ 10) (h3 : x ≠ 13) (h4 : x ≠ 9) (h5 : x ≠ 38) (h6 : x ≠ 62) (h7 : x ≠ 60) : code6 x = [x] := by simp [code6, code3, h2, h3, h4, h5, h6, h7]
theorem one7 {x : Nat} (h1 : x ≠ 34) (h2 : x ≠ 10) (h3 : x ≠ 13) (h4 : x ≠ 9) (h5 : x ≠ 38) (h6 : x ≠ 62) (h7 : x ≠ 60) : code7 x = [x] := by simp [code7, code6, code3, h1, h2, h3, h4, h5, h6, h7]
theorem no_one {x : Nat} {w : List Nat} (h : isWord w) (e : [x] = w) : False := by
  obtain ⟨u, hu, _⟩ := h
  rw [hu] at e
  simp at e
/-- a word comes from its sign alone -/
theorem inv3 {w z : List Nat} (hw : isWord w) (h : ∀ x ∈ [34, 10, 13, 9, 38, 62, 60], code3 x = w → z = [x]) (x : Nat) : code3 x = w → z = [x] :=
  cases7 (P := fun x => code3 x = w → z = [x]) (h 34 (by decide)) (h 10 (by decide)) (h 13 (by decide)) (h 9 (by decide)) (h 38 (by decide)) (h 62 (by decide)) (h 60 (by decide)) (fun x _ _ _ _ h5 h6 h7 e => (no_one hw ((one3 h5 h6 h7).symm.trans e)).elim) x
theorem inv4 {w z : List Nat} (hw : isWord w) (h : ∀ x ∈ [34, 10, 13, 9, 38, 62, 60], code4 x = w → z = [x]) (x : Nat) : code4 x = w → z = [x] :=
  cases7 (P := fun x => code4 x = w → z = [x]) (h 34 (by decide)) (h 10 (by decide)) (h 13 (by decide)) (h 9 (by decide)) (h 38 (by decide)) (h 62 (by decide)) (h 60 (by decide)) (fun x h1 _ _ _ h5 h6 h7 e => (no_one hw ((one4 h1 h5 h6 h7).symm.trans e)).elim) x
theorem inv6 {w z : List Nat} (hw : isWord w) (h : ∀ x ∈ [34, 10, 13, 9, 38, 62, 60], code6 x = w → z = [x]) (x : Nat) : code6 x = w → z = [x] :=
  cases7 (P := fun x => code6 x = w → z = [x]) (h 34 (by decide)) (h 10 (by decide)) (h 13 (by decide)) (h 9 (by decide)) (h 38 (by decide)) (h 62 (by decide)) (h 60 (by decide)) (fun x h1 h2 h3 h4 h5 h6 h7 e => (no_one hw ((one6 h2 h3 h4 h5 h6 h7).symm.trans e)).elim) x
theorem inv7 {w z : List Nat} (hw : isWord w) (h : ∀ x ∈ [34, 10, 13, 9, 38, 62, 60], code7 x = w → z = [x]) (x : Nat) : code7 x = w → z = [x] :=
  cases7 (P := fun x => code7 x = w → z = [x]) (h 34 (by decide)) (h 10 (by decide)) (h 13 (by decide)) (h 9 (by decide)) (h 38 (by decide)) (h 62 (by decide)) (h 60 (by decide)) (fun x h1 h2 h3 h4 h5 h6 h7 e => (no_one hw ((one7 h1 h2 h3 h4 h5 h6 h7).symm.trans e)).elim) x

theorem inj1 {a b : Nat} (h : [a] = [b]) : b = a := by simpa using h.symm
noncomputable def whitesR : List (List Nat × List Nat) := [(lit "&#10;", lit "\n"), (lit "&#13;", lit "\r"), (lit "&#9;", lit "\t")]
theorem U3 (l : List Nat) : UU [] (l.flatMap code3) = l := by
  refine UU_code l (by rintro x rfl; rfl) ok3 (fun x e => inj1 (inv3 (z := [38]) w_amp (by decide) x e)) ?_ ?_
  · intro p hp
    simp only [List.mem_cons, List.not_mem_nil, or_false] at hp
    rcases hp with rfl | rfl
    · exact ⟨w_lt, by decide, inv3 w_lt (by decide)⟩
    · exact ⟨w_gt, by decide, inv3 w_gt (by decide)⟩
  · exact fun x _ => cases7 (P := fun x => code3 x = [x] ∨ code3 x = amp ∨ code3 x ∈ ((lit "&lt;", lit "<") :: (lit "&gt;", lit ">") :: []).map (·.1)) (by decide) (by decide) (by decide) (by decide) (by decide) (by decide) (by decide) (fun x _ _ _ _ h5 h6 h7 => .inl (one3 h5 h6 h7)) x
theorem U4 (l : List Nat) : UU [(lit "&quot;", lit "\"")] (l.flatMap code4) = l := by
  refine UU_code l (by rintro x rfl; rfl) ok4 (fun x e => inj1 (inv4 (z := [38]) w_amp (by decide) x e)) ?_ ?_
  · intro p hp
    simp only [List.mem_cons, List.not_mem_nil, or_false] at hp
    rcases hp with rfl | rfl | rfl
    · exact ⟨w_lt, by decide, inv4 w_lt (by decide)⟩
    · exact ⟨w_gt, by decide, inv4 w_gt (by decide)⟩
    · exact ⟨w_quot, by decide, inv4 w_quot (by decide)⟩
  · exact fun x _ => cases7 (P := fun x => code4 x = [x] ∨ code4 x = amp ∨ code4 x ∈ ((lit "&lt;", lit "<") :: (lit "&gt;", lit ">") :: [(lit "&quot;", lit "\"")]).map (·.1)) (by decide) (by decide) (by decide) (by decide) (by decide) (by decide) (by decide) (fun x h1 _ _ _ h5 h6 h7 => .inl (one4 h1 h5 h6 h7)) x
theorem U6 (l : List Nat) : UU whitesR (l.flatMap code6) = l := by
  refine UU_code l (by rintro x rfl; rfl) ok6 (fun x e => inj1 (inv6 (z := [38]) w_amp (by decide) x e)) ?_ ?_
  · intro p hp
    simp only [whitesR, List.mem_cons, List.not_mem_nil, or_false] at hp
    rcases hp with rfl | rfl | rfl | rfl | rfl
    · exact ⟨w_lt, by decide, inv6 w_lt (by decide)⟩
    · exact ⟨w_gt, by decide, inv6 w_gt (by decide)⟩
    · exact ⟨w_10, by decide, inv6 w_10 (by decide)⟩
    · exact ⟨w_13, by decide, inv6 w_13 (by decide)⟩
    · exact ⟨w_9, by decide, inv6 w_9 (by decide)⟩
  · exact fun x _ => cases7 (P := fun x => code6 x = [x] ∨ code6 x = amp ∨ code6 x ∈ ((lit "&lt;", lit "<") :: (lit "&gt;", lit ">") :: whitesR).map (·.1)) (by decide) (by decide) (by decide) (by decide) (by decide) (by decide) (by decide) (fun x h1 h2 h3 h4 h5 h6 h7 => .inl (one6 h2 h3 h4 h5 h6 h7)) x
theorem U7 (l : List Nat) : UU (whitesR ++ [(lit "&quot;", lit "\"")]) (l.flatMap code7) = l := by
  refine UU_code l (by rintro x rfl; rfl) ok7 (fun x e => inj1 (inv7 (z := [38]) w_amp (by decide) x e)) ?_ ?_
  · intro p hp
    simp only [whitesR, List.cons_append, List.nil_append, List.mem_cons, List.not_mem_nil, or_false] at hp
    rcases hp with rfl | rfl | rfl | rfl | rfl | rfl
    · exact ⟨w_lt, by decide, inv7 w_lt (by decide)⟩
    · exact ⟨w_gt, by decide, inv7 w_gt (by decide)⟩
    · exact ⟨w_10, by decide, inv7 w_10 (by decide)⟩
    · exact ⟨w_13, by decide, inv7 w_13 (by decide)⟩
    · exact ⟨w_9, by decide, inv7 w_9 (by decide)⟩
    · exact ⟨w_quot, by decide, inv7 w_quot (by decide)⟩
  · exact fun x _ => cases7 (P := fun x => code7 x = [x] ∨ code7 x = amp ∨ code7 x ∈ ((lit "&lt;", lit "<") :: (lit "&gt;", lit ">") :: (whitesR ++ [(lit "&quot;", lit "\"")])).map (·.1)) (by decide) (by decide) (by decide) (by decide) (by decide) (by decide) (by decide) (fun x h1 h2 h3 h4 h5 h6 h7 => .inl (one7 h1 h2 h3 h4 h5 h6 h7)) x

/-! the readers know the codes -/
noncomputable def bare3 : List Nat := lit "<>"
noncomputable def bare4 : List Nat := lit "<>\""
noncomputable def bare6 : List Nat := lit "<>\n\r\t'"
noncomputable def bare7 : List Nat := lit "<>\n\r\t\""
theorem bare3_eq : bare3 = [60, 62] := by decide
theorem bare4_eq : bare4 = [60, 62, 34] := by decide
theorem bare6_eq : bare6 = [60, 62, 10, 13, 9, 39] := by decide
theorem bare7_eq : bare7 = [60, 62, 10, 13, 9, 34] := by decide
theorem words7 : ∀ nm ∈ names7, isWord nm := by
  intro nm h
  simp only [names7, names6, names3, List.cons_append, List.nil_append, List.mem_cons, List.not_mem_nil, or_false] at h
  rcases h with rfl | rfl | rfl | rfl | rfl | rfl | rfl
  · exact w_amp
  · exact w_lt
  · exact w_gt
  · exact w_10
  · exact w_13
  · exact w_9
  · exact w_quot
theorem sub3 : ∀ nm ∈ names3, nm ∈ names7 := by decide
theorem sub4 : ∀ nm ∈ names4, nm ∈ names7 := by decide
theorem sub6 : ∀ nm ∈ names6, nm ∈ names7 := by decide
theorem signs3 : ∀ nm ∈ names3, ∃ x ∈ [34, 10, 13, 9, 38, 62, 60], sg nm = [x] ∧ code3 x = nm := by decide
theorem signs4 : ∀ nm ∈ names4, ∃ x ∈ [34, 10, 13, 9, 38, 62, 60], sg nm = [x] ∧ code4 x = nm := by decide
theorem signs6 : ∀ nm ∈ names6, ∃ x ∈ [34, 10, 13, 9, 38, 62, 60], sg nm = [x] ∧ code6 x = nm := by decide
theorem signs7 : ∀ nm ∈ names7, ∃ x ∈ [34, 10, 13, 9, 38, 62, 60], sg nm = [x] ∧ code7 x = nm := by decide
theorem K3 : Knows names3 sg bare3 code3 := ⟨fun nm h => words7 nm (sub3 nm h), fun nm h => let ⟨x, _, q⟩ := signs3 nm h; ⟨x, q⟩, by
  intro c h1 h2
  have : c ≠ 60 ∧ c ≠ 62 := by rw [bare3_eq] at h2; simpa using h2
  exact one3 h1 this.2 this.1⟩
theorem K4 : Knows names4 sg bare4 code4 := ⟨fun nm h => words7 nm (sub4 nm h), fun nm h => let ⟨x, _, q⟩ := signs4 nm h; ⟨x, q⟩, by
  intro c h1 h2
  have : c ≠ 60 ∧ c ≠ 62 ∧ c ≠ 34 := by rw [bare4_eq] at h2; simpa using h2
  exact one4 this.2.2 h1 this.2.1 this.1⟩
theorem K6 : Knows names6 sg bare6 code6 := ⟨fun nm h => words7 nm (sub6 nm h), fun nm h => let ⟨x, _, q⟩ := signs6 nm h; ⟨x, q⟩, by
  intro c h1 h2
  have : c ≠ 60 ∧ c ≠ 62 ∧ c ≠ 10 ∧ c ≠ 13 ∧ c ≠ 9 ∧ c ≠ 39 := by rw [bare6_eq] at h2; simpa using h2
  exact one6 this.2.2.1 this.2.2.2.1 this.2.2.2.2.1 h1 this.2.1 this.1⟩
theorem K7 : Knows names7 sg bare7 code7 := ⟨words7, fun nm h => let ⟨x, _, q⟩ := signs7 nm h; ⟨x, q⟩, by
  intro c h1 h2
  have : c ≠ 60 ∧ c ≠ 62 ∧ c ≠ 10 ∧ c ≠ 13 ∧ c ≠ 9 ∧ c ≠ 34 := by rw [bare7_eq] at h2; simpa using h2
  exact one7 this.2.2.2.2.2 this.2.2.1 this.2.2.2.1 this.2.2.2.2.1 h1 this.2.1 this.1⟩
theorem good3 (x : Nat) : good names3 sg bare3 code3 x :=
  cases7 (P := good names3 sg bare3 code3) (by unfold good; decide) (by unfold good; decide) (by unfold good; decide) (by unfold good; decide) (by unfold good; decide) (by unfold good; decide) (by unfold good; decide) (fun x _ _ _ _ h5 h6 h7 => .inl ⟨one3 h5 h6 h7, h5, by rw [bare3_eq]; simp [h6, h7]⟩) x
theorem good4 (x : Nat) : good names4 sg bare4 code4 x :=
  cases7 (P := good names4 sg bare4 code4) (by unfold good; decide) (by unfold good; decide) (by unfold good; decide) (by unfold good; decide) (by unfold good; decide) (by unfold good; decide) (by unfold good; decide) (fun x h1 _ _ _ h5 h6 h7 => .inl ⟨one4 h1 h5 h6 h7, h5, by rw [bare4_eq]; simp [h1, h6, h7]⟩) x
theorem good6 {x : Nat} (hx : x ≠ 39) : good names6 sg bare6 code6 x :=
  cases7 (P := fun x => x ≠ 39 → good names6 sg bare6 code6 x) (fun _ => by unfold good; decide) (fun _ => by unfold good; decide) (fun _ => by unfold good; decide) (fun _ => by unfold good; decide) (fun _ => by unfold good; decide) (fun _ => by unfold good; decide) (fun _ => by unfold good; decide) (fun x h1 h2 h3 h4 h5 h6 h7 h8 => .inl ⟨one6 h2 h3 h4 h5 h6 h7, h5, by rw [bare6_eq]; simp [h2, h3, h4, h6, h7, h8]⟩) x hx
theorem good7 (x : Nat) : good names7 sg bare7 code7 x :=
  cases7 (P := good names7 sg bare7 code7) (by unfold good; decide) (by unfold good; decide) (by unfold good; decide) (by unfold good; decide) (by unfold good; decide) (by unfold good; decide) (by unfold good; decide) (fun x h1 h2 h3 h4 h5 h6 h7 => .inl ⟨one7 h1 h2 h3 h4 h5 h6 h7, h5, by rw [bare7_eq]; simp [h1, h2, h3, h4, h6, h7]⟩) x
end Mine

end

section
open PySem
namespace Mine

/-- a writer and the reader of what it writes -/
structure Coding (W : List Nat → List Nat) (D : List Nat → Option (List Nat)) : Prop where
  rt : ∀ x, D (W x) = some x
  sn : ∀ t l, D t = some l → W l = t

noncomputable def W1 (l : List Nat) : List Nat := E3 l
noncomputable def D1 (t : List Nat) : Option (List Nat) := rdA names3 sg bare3 t
theorem C1 : Coding W1 D1 where
  rt x := by show rdA _ _ _ (E3 x) = _; rw [E3_code]; exact rdA_code K3 fun y _ => good3 y
  sn t l e := by show E3 l = t; rw [E3_code, ← (rdA_sound K3 e).1]
theorem B1 {t l : List Nat} (e : D1 t = some l) : UU [] t = l := by rw [(rdA_sound K3 e).1, U3]

noncomputable def W2 (l : List Nat) : List Nat := EE [(lit "\"", lit "&quot;")] l
noncomputable def D2 (t : List Nat) : Option (List Nat) := rdA names4 sg bare4 t
theorem C2 : Coding W2 D2 where
  rt x := by show rdA _ _ _ (EE _ x) = _; rw [E4_code]; exact rdA_code K4 fun y _ => good4 y
  sn t l e := by show EE _ l = t; rw [E4_code, ← (rdA_sound K4 e).1]
theorem B2 {t l : List Nat} (e : D2 t = some l) : UU [(lit "&quot;", lit "\"")] t = l := by rw [(rdA_sound K4 e).1, U4]

noncomputable def inner (t : List Nat) : List Nat := slc t (some 1) (some (-1))
noncomputable def W3 (l : List Nat) : List Nat :=
  if 34 ∈ EE whites l then (if 39 ∈ EE whites l then 34 :: (replace (lit "\"") (lit "&quot;") (EE whites l) ++ [34]) else 39 :: (EE whites l ++ [39])) else 34 :: (EE whites l ++ [34])
noncomputable def D3 (t : List Nat) : Option (List Nat) :=
  if t.length < 2 ∨ t.head? ≠ t.getLast? then none
  else if t.head? = some 39 then ((rdA names6 sg bare6 (inner t)).bind fun r => if 34 ∈ r then some r else none)
  else if t.head? ≠ some 34 then none
  else (rdA names7 sg bare7 (inner t)).bind fun r => if 34 ∈ r ∧ 39 ∉ r then none else some r
theorem inner_mid (a b : Nat) (m : List Nat) : inner (a :: (m ++ [b])) = m := by
  unfold inner slc
  have h1 : clamp (-1) (a :: (m ++ [b])).length = m.length + 1 := by
    unfold clamp
    rw [if_pos (by decide)]
    simp
    omega
  have h2 : clamp 1 (a :: (m ++ [b])).length = 1 := by
    unfold clamp
    rw [if_neg (by decide)]
    simp
  simp only [Option.map_some, Option.getD_some, h1, h2]
  rw [show m.length + 1 = (a :: m).length from rfl, ← List.cons_append, List.take_left]
  rfl
theorem two_ends {t : List Nat} (h : ¬ t.length < 2) : ∃ a m b, t = a :: (m ++ [b]) := by
  match t, h with
  | a :: r, h =>
    rcases List.eq_nil_or_concat r with e | ⟨m, b, e⟩
    · subst e; exact absurd (by simp) h
    · exact ⟨a, m, b, by rw [e, List.concat_eq_append]⟩
  | [], h => exact absurd (by simp) h
theorem last_of (a b : Nat) (m : List Nat) : (a :: (m ++ [b])).getLast? = some b := by
  rw [← List.cons_append, List.getLast?_concat]
theorem mem6 {c : Nat} (hc : c = 34 ∨ c = 39) {l : List Nat} : c ∈ l.flatMap code6 ↔ c ∈ l := by
  rw [List.mem_flatMap]
  have key : ∀ x, c ∈ code6 x → x = c := by
    intro x
    rcases hc with rfl | rfl
    · exact cases7 (P := fun x => 34 ∈ code6 x → x = 34) (by decide) (by decide) (by decide) (by decide) (by decide) (by decide) (by decide) (fun x h1 h2 h3 h4 h5 h6 h7 h => by rw [one6 h2 h3 h4 h5 h6 h7] at h; exact (List.mem_singleton.mp h).symm) x
    · exact cases7 (P := fun x => 39 ∈ code6 x → x = 39) (by decide) (by decide) (by decide) (by decide) (by decide) (by decide) (by decide) (fun x h1 h2 h3 h4 h5 h6 h7 h => by rw [one6 h2 h3 h4 h5 h6 h7] at h; exact (List.mem_singleton.mp h).symm) x
  constructor
  · rintro ⟨x, hx, h⟩
    exact key x h ▸ hx
  · intro h
    exact ⟨c, h, by rcases hc with rfl | rfl <;> decide⟩
theorem flat67 {l : List Nat} (h : 34 ∉ l) : l.flatMap code6 = l.flatMap code7 := flat_congr fun x hx => by
  unfold code7
  rw [if_neg (fun e : x = 34 => h (e ▸ hx))]
theorem W3_eq (l : List Nat) : W3 l = if 34 ∈ l ∧ 39 ∉ l then 39 :: (l.flatMap code6 ++ [39]) else 34 :: (l.flatMap code7 ++ [34]) := by
  unfold W3
  rw [E6_code]
  simp only [mem6 (.inl rfl), mem6 (.inr rfl)]
  by_cases h1 : 34 ∈ l
  · by_cases h2 : 39 ∈ l
    · rw [if_pos h1, if_pos h2, if_neg (by simp [h2]), E7_code]
    · rw [if_pos h1, if_neg h2, if_pos ⟨h1, h2⟩]
  · rw [if_neg h1, if_neg (by simp [h1]), flat67 h1]
theorem D3_at (a b : Nat) (m : List Nat) : D3 (a :: (m ++ [b])) = if a ≠ b then none else if a = 39 then ((rdA names6 sg bare6 m).bind fun r => if 34 ∈ r then some r else none)
    else if a ≠ 34 then none else (rdA names7 sg bare7 m).bind fun r => if 34 ∈ r ∧ 39 ∉ r then none else some r := by
  unfold D3
  have hl : ¬ (a :: (m ++ [b])).length < 2 := by simp
  rw [last_of, inner_mid]
  by_cases hab : a = b
  · subst hab
    by_cases h1 : a = 39
    · subst h1; simp; omega
    · by_cases h2 : a = 34
      · subst h2; simp; omega
      · simp [h1, h2]
  · simp [hab]
theorem noapos {l : List Nat} (h : ∀ x ∈ l, good names6 sg bare6 code6 x) : 39 ∉ l := by
  intro hm
  have := h 39 hm
  unfold good at this
  revert this
  decide
theorem C3 : Coding W3 D3 where
  rt x := by
    rw [W3_eq]
    by_cases h : 34 ∈ x ∧ 39 ∉ x
    · rw [if_pos h, D3_at, if_neg (by simp), if_pos rfl, rdA_code K6 (fun y hy => good6 (fun e => h.2 (e ▸ hy)))]
      show (if 34 ∈ x then some x else none) = _
      rw [if_pos h.1]
    · rw [if_neg h, D3_at, if_neg (by simp), if_neg (by decide), if_neg (by simp), rdA_code K7 (fun y _ => good7 y)]
      show (if 34 ∈ x ∧ 39 ∉ x then none else some x) = _
      rw [if_neg h]
  sn t l e := by
    have hl : ¬ t.length < 2 := by
      intro h
      unfold D3 at e
      rw [if_pos (.inl h)] at e
      cases e
    obtain ⟨a, m, b, rfl⟩ := two_ends hl
    rw [D3_at] at e
    split at e
    · cases e
    · rename_i hab
      have hab : a = b := Decidable.not_not.mp hab
      subst hab
      split at e
      · rename_i h39
        subst h39
        obtain ⟨r, e1, e2⟩ := Option.bind_eq_some_iff.mp e
        split at e2
        · rename_i h34
          cases e2
          obtain ⟨q1, q2⟩ := rdA_sound K6 e1
          rw [W3_eq, if_pos ⟨h34, noapos q2⟩, q1]
        · cases e2
      · split at e
        · cases e
        · rename_i h34
          have h34 : a = 34 := Decidable.not_not.mp h34
          subst h34
          obtain ⟨r, e1, e2⟩ := Option.bind_eq_some_iff.mp e
          split at e2
          · cases e2
          · rename_i hn
            cases e2
            obtain ⟨q1, q2⟩ := rdA_sound K7 e1
            rw [W3_eq, if_neg hn, q1]
noncomputable def rest (t : List Nat) : List (List Nat × List Nat) := if t.take 1 = [34] then whitesR ++ [(lit "&quot;", lit "\"")] else whitesR
theorem B3 {t l : List Nat} (e : D3 t = some l) : UU (rest t) (inner t) = l := by
  have ht := C3.sn t l e
  rw [← ht, W3_eq]
  split
  · rw [inner_mid]; exact U6 l
  · rw [inner_mid]; exact U7 l

/-! what the law asks of a writer -/
theorem none_ne {W : List Nat → List Nat} {D : List Nat → Option (List Nat)} (C : Coding W D) {t b : List Nat} (e : D t = none) : W b ≠ t := by
  intro h
  rw [← h, C.rt] at e
  cases e
theorem less_ne {W : List Nat → List Nat} {D : List Nat → Option (List Nat)} (C : Coding W D) {t l x : List Nat} (e : D t = some l) (hx : x ≠ l) : W x ≠ t := by
  intro h
  have := C.rt x
  rw [h, e] at this
  cases this
  exact hx rfl
end Mine

end

section
open PySem
namespace Mine

section
variable {F : List Fn} {X : Hp} {n d g : Nat} {e : ME} {b : MSs} {m : M} {h : Hp} {vs : List V}
theorem Mi_ev : (Mi F X (n + 1) d).ev e m h = stepE X (Mi F X n d) e m h := rfl
theorem Mi_ex : (Mi F X (n + 1) d).ex b m h = stepX X (Mi F X n d) b m h := rfl
theorem Mi_cl : (Mi F X (n + 1) (d + 1)).cl g vs h = stepC F (Mi F X n d) g vs h := rfl
theorem Mi_fu : (Mi F X (n + 1) d).fu = n := rfl
end

theorem f_0 : funs[0]? = some ⟨2, 4, b_dict_replace_saxutils, none⟩ := rfl
theorem f_1 : funs[1]? = some ⟨2, 2, b_escape, some 1⟩ := rfl
theorem f_2 : funs[2]? = some ⟨2, 2, b_unescape, some 2⟩ := rfl
theorem f_3 : funs[3]? = some ⟨2, 2, b_quoteattr, some 3⟩ := rfl
theorem f_4 : funs[4]? = some ⟨1, 6, b_law_pieces, none⟩ := rfl
theorem f_5 : funs[5]? = some ⟨3, 8, b_law_read, none⟩ := rfl
theorem f_6 : funs[6]? = some ⟨1, 3, b_law_quoted, none⟩ := rfl
theorem f_7 : funs[7]? = some ⟨1, 1, b_law_plain, none⟩ := rfl
theorem f_8 : funs[8]? = some ⟨1, 1, b_law_marked, none⟩ := rfl
theorem f_9 : funs[9]? = some ⟨4, 5, b_law_asked, none⟩ := rfl
theorem f_10 : funs[10]? = some ⟨1, 4, b_law, none⟩ := rfl

theorem replace_le {y z : List Nat} (hy : y ≠ []) (hz : z.length ≤ y.length) : ∀ (k : Nat) (l : List Nat), l.length ≤ k → (replace y z l).length ≤ l.length
  | 0, l, h => by
    obtain rfl : l = [] := List.length_eq_zero_iff.mp (Nat.le_zero.mp h)
    exact Nat.le_refl _
  | k + 1, [], _ => Nat.le_refl _
  | k + 1, c :: r, h => by
    rw [replace_cons hy]
    split
    · rename_i hp
      have := replace_le hy hz k ((c :: r).drop y.length) (by
        have : 1 ≤ y.length := by cases y with | nil => exact absurd rfl hy | cons => simp
        simp at h ⊢; omega)
      obtain ⟨t, ht⟩ := isP_iff.mp hp
      have hl := congrArg List.length ht
      rw [List.length_append] at hl
      rw [List.length_append]
      rw [List.length_drop] at this
      omega
    · have := replace_le hy hz k r (by simpa using h)
      simp only [List.length_cons]
      omega

/-- the guards of a chain of replaces -/
noncomputable def okRep : List (List Nat × List Nat) → List Nat → Prop
  | [], _ => True
  | e :: r, l => e.1 ≠ [] ∧ l.length + (l.length + 1) * e.2.length ≤ LIM ∧ okRep r (replace e.1 e.2 l)
noncomputable def encd (es : List (List Nat × List Nat)) : List (List Nat × V) := es.map fun e => (e.1, V.str e.2)
theorem reps_is {dd : Option V} : ∀ (es : List (List Nat × List Nat)) (l : List Nat) (x y : Option V), okRep es l → ∃ x' y', reps 0 2 3 (encd es) [some (.str l), dd, x, y] = some [some (.str (es.foldl (fun l e => replace e.1 e.2 l) l)), dd, x', y']
  | [], l, x, y, _ => ⟨x, y, rfl⟩
  | e :: r, l, x, y, ⟨h1, h2, h3⟩ => by
    obtain ⟨x', y', ih⟩ := reps_is r (replace e.1 e.2 l) (some (.str e.1)) (some (.str e.2)) h3
    refine ⟨x', y', ?_⟩
    rw [List.foldl_cons, ← ih]
    show reps 0 2 3 ((e.1, V.str e.2) :: encd r) _ = _
    rw [reps]
    show (if e.1 ≠ [] ∧ l.length + (l.length + 1) * e.2.length ≤ LIM then _ else _) = _
    rw [if_pos ⟨h1, h2⟩]
    rfl

section
variable {X : Hp} {n d : Nat} {s : MS} {r : MSs} {m m1 : M} {h h1 : Hp} {v : V} {S : Sm}
theorem X_next (hs : stepS X (Mi funs X n d) s m h = some (.next, m1, h1)) : (Mi funs X (n + 1) d).ex (.cons s r) m h = (Mi funs X n d).ex r m1 h1 := by
  rw [Mi_ex, stepX, hs]; rfl
theorem X_ret (hs : stepS X (Mi funs X n d) s m h = some (.ret v, m1, h1)) : (Mi funs X (n + 1) d).ex (.cons s r) m h = some (.ret v, m1, h1) := by
  rw [Mi_ex, stepX, hs]; rfl
theorem X_brk (hs : stepS X (Mi funs X n d) s m h = some (.brk, m1, h1)) : (Mi funs X (n + 1) d).ex (.cons s r) m h = some (.brk, m1, h1) := by
  rw [Mi_ex, stepX, hs]; rfl
theorem X_nil : (Mi funs X (n + 1) d).ex .nil m h = some (.next, m, h) := rfl
theorem S_asg {i : Nat} {tp p : Pos} {e : ME} (he : S.ev e m h = some (v, h1)) : stepS X S (.asg i tp e p) m h = some (.next, m.set i (some v), h1) := by rw [stepS, he]; rfl
theorem S_ret {p : Pos} {e : ME} (he : S.ev e m h = some (v, h1)) : stepS X S (.ret e p) m h = some (.ret v, m, h1) := by rw [stepS, he]; rfl
theorem S_ite {t : ME} {b o : MSs} {p : Pos} {c : Bool} (he : S.ev t m h = some (v, h1)) (ht : truth X h1 v = some c) : stepS X S (.ite t b o p) m h = if c then S.ex b m h1 else S.ex o m h1 := by
  rw [stepS, he]
  show ((truth X h1 v).bind _) = _
  rw [ht]; rfl
theorem S_yes {t : ME} {b o : MSs} {p : Pos} (he : S.ev t m h = some (v, h1)) (ht : truth X h1 v = some true) : stepS X S (.ite t b o p) m h = S.ex b m h1 := by rw [S_ite he ht]; rfl
theorem S_no {t : ME} {b o : MSs} {p : Pos} (he : S.ev t m h = some (v, h1)) (ht : truth X h1 v = some false) : stepS X S (.ite t b o p) m h = S.ex o m h1 := by rw [S_ite he ht]; rfl

/-- a body ends by a return of v -/
noncomputable def RetX (X : Hp) (n d : Nat) (b : MSs) (m : M) (h : Hp) (v : V) (h' : Hp) : Prop := ∃ m', (Mi funs X n d).ex b m h = some (.ret v, m', h')
/-- a body runs through -/
noncomputable def Thru (X : Hp) (n d : Nat) (b : MSs) (m : M) (h : Hp) (m' : M) (h' : Hp) : Prop := (Mi funs X n d).ex b m h = some (.next, m', h')
theorem R_next {h' : Hp} (hs : stepS X (Mi funs X n d) s m h = some (.next, m1, h1)) (k : RetX X n d r m1 h1 v h') : RetX X (n + 1) d (.cons s r) m h v h' := by
  obtain ⟨m', e⟩ := k
  exact ⟨m', (X_next hs).trans e⟩
theorem R_stop {h' : Hp} (hs : stepS X (Mi funs X n d) s m h = some (.ret v, m1, h')) : RetX X (n + 1) d (.cons s r) m h v h' := ⟨m1, X_ret hs⟩
theorem R_asg {h' : Hp} {i : Nat} {tp p : Pos} {e : ME} {u : V} (he : (Mi funs X n d).ev e m h = some (u, h1)) (k : RetX X n d r (m.set i (some u)) h1 v h') : RetX X (n + 1) d (.cons (.asg i tp e p) r) m h v h' := R_next (S_asg he) k
theorem R_ret {h' : Hp} {p : Pos} {e : ME} (he : (Mi funs X n d).ev e m h = some (v, h')) : RetX X (n + 1) d (.cons (.ret e p) r) m h v h' := R_stop (S_ret he)
theorem R_yes {h' h2 : Hp} {m2 : M} {t : ME} {b o : MSs} {p : Pos} {u : V} (he : (Mi funs X n d).ev t m h = some (u, h1)) (ht : truth X h1 u = some true) (hb : Thru X n d b m h1 m2 h2) (k : RetX X n d r m2 h2 v h') : RetX X (n + 1) d (.cons (.ite t b o p) r) m h v h' :=
  R_next ((S_yes he ht).trans hb) k
theorem R_no {h' h2 : Hp} {m2 : M} {t : ME} {b o : MSs} {p : Pos} {u : V} (he : (Mi funs X n d).ev t m h = some (u, h1)) (ht : truth X h1 u = some false) (hb : Thru X n d o m h1 m2 h2) (k : RetX X n d r m2 h2 v h') : RetX X (n + 1) d (.cons (.ite t b o p) r) m h v h' :=
  R_next ((S_no he ht).trans hb) k
theorem R_yesR {h' : Hp} {t : ME} {b o : MSs} {p : Pos} {u : V} (he : (Mi funs X n d).ev t m h = some (u, h1)) (ht : truth X h1 u = some true) (hb : RetX X n d b m h1 v h') : RetX X (n + 1) d (.cons (.ite t b o p) r) m h v h' := by
  obtain ⟨m', e⟩ := hb
  exact R_stop ((S_yes he ht).trans e)
theorem R_noR {h' : Hp} {t : ME} {b o : MSs} {p : Pos} {u : V} (he : (Mi funs X n d).ev t m h = some (u, h1)) (ht : truth X h1 u = some false) (hb : RetX X n d o m h1 v h') : RetX X (n + 1) d (.cons (.ite t b o p) r) m h v h' := by
  obtain ⟨m', e⟩ := hb
  exact R_stop ((S_no he ht).trans e)
theorem T_nil : Thru X (n + 1) d .nil m h m h := rfl
theorem T_next {m2 : M} {h2 : Hp} (hs : stepS X (Mi funs X n d) s m h = some (.next, m1, h1)) (k : Thru X n d r m1 h1 m2 h2) : Thru X (n + 1) d (.cons s r) m h m2 h2 := (X_next hs).trans k
theorem T_asg {i : Nat} {tp p : Pos} {e : ME} {u : V} {m2 : M} {h2 : Hp} (he : (Mi funs X n d).ev e m h = some (u, h1)) (k : Thru X n d r (m.set i (some u)) h1 m2 h2) : Thru X (n + 1) d (.cons (.asg i tp e p) r) m h m2 h2 := T_next (S_asg he) k
theorem T_yes {h2 h3 : Hp} {m2 m3 : M} {t : ME} {b o : MSs} {p : Pos} {u : V} (he : (Mi funs X n d).ev t m h = some (u, h1)) (ht : truth X h1 u = some true) (hb : Thru X n d b m h1 m2 h2) (k : Thru X n d r m2 h2 m3 h3) : Thru X (n + 1) d (.cons (.ite t b o p) r) m h m3 h3 :=
  T_next ((S_yes he ht).trans hb) k
theorem T_no {h2 h3 : Hp} {m2 m3 : M} {t : ME} {b o : MSs} {p : Pos} {u : V} (he : (Mi funs X n d).ev t m h = some (u, h1)) (ht : truth X h1 u = some false) (hb : Thru X n d o m h1 m2 h2) (k : Thru X n d r m2 h2 m3 h3) : Thru X (n + 1) d (.cons (.ite t b o p) r) m h m3 h3 :=
  T_next ((S_no he ht).trans hb) k
theorem cl_is {g : Nat} {vs : List V} {fn : Fn} {h' : Hp} (hf : funs[g]? = some fn) (hn : vs.length = fn.np) (hb : RetX X n d fn.body (vs.map some ++ List.replicate (fn.nslots - fn.np) Option.none) h v h') : (Mi funs X (n + 1) (d + 1)).cl g vs h = some (v, h') := by
  obtain ⟨m', hb⟩ := hb
  rw [Mi_cl, stepC, hf]
  show ((if vs.length = fn.np then some vs else _).bind _) = _
  rw [if_pos hn]
  show Option.map _ ((Mi funs X n d).ex fn.body (vs.map some ++ List.replicate (fn.nslots - fn.np) Option.none) h) = _
  rw [hb]; rfl
theorem cl_dflt {g j : Nat} {vs : List V} {fn : Fn} {h' : Hp} (hf : funs[g]? = some fn) (hn : vs.length + 1 = fn.np) (hj : fn.dflt = some j) (hb : RetX X n d fn.body ((vs ++ [V.ext j]).map some ++ List.replicate (fn.nslots - fn.np) Option.none) h v h') : (Mi funs X (n + 1) (d + 1)).cl g vs h = some (v, h') := by
  obtain ⟨m', hb⟩ := hb
  rw [Mi_cl, stepC, hf]
  show ((if vs.length = fn.np then some vs else match fn.dflt with | some j => if vs.length + 1 = fn.np then some (vs ++ [V.ext j]) else Option.none | Option.none => Option.none).bind _) = _
  rw [if_neg (by omega), hj]
  show ((if vs.length + 1 = fn.np then some (vs ++ [V.ext j]) else _).bind _) = _
  rw [if_pos hn]
  show Option.map _ ((Mi funs X n d).ex fn.body ((vs ++ [V.ext j]).map some ++ List.replicate (fn.nslots - fn.np) Option.none) h) = _
  rw [hb]; rfl
end

theorem r_dict {X : Hp} {n d ep : Nat} {h : Hp} {dv : V} {es : List (List Nat × List Nat)} {l : List Nat} (ho : obj X h dv = some (.dict true ep (encd es))) (hg : okRep es l) :
    (Mi funs X (n + 10) (d + 1)).cl 0 [.str l, dv] h = some (.str (es.foldl (fun l e => replace e.1 e.2 l) l), h) := by
  obtain ⟨x', y', e⟩ := reps_is (dd := some dv) es l none none hg
  refine cl_is (n := n + 9) f_0 rfl ?_
  refine R_next (n := n + 8) (m1 := [some (.str (es.foldl (fun l e => replace e.1 e.2 l) l)), some dv, x', y']) (h1 := h) ?_ (R_ret (n := n + 7) rfl)
  show stepS X (Mi funs X (n + 8) d) (.rep 0 2 3 1 _ _ _ _ _ _ _ _ _ _ _ _ _ _) [some (.str l), some dv, none, none] h = _
  rw [stepS]
  show ((some dv).bind _) = _
  rw [Option.bind_some, ho]
  show Option.map _ (reps 0 2 3 (encd es) [some (.str l), some dv, none, none]) = _
  rw [e]; rfl
theorem truth_dict {X h : Hp} {dv : V} {rep : Bool} {ep : Nat} {es : List (List Nat × List Nat)} (ho : obj X h dv = some (.dict rep ep (encd es))) : truth X h dv = some (!es.isEmpty) := by
  have key : (obj X h dv).bind O.full = some (!es.isEmpty) := by rw [ho]; cases es <;> rfl
  cases dv <;> first | exact key | (cases ho)

theorem E3_ok {l : List Nat} (hl : l.length ≤ 3000) : (lit "&" ≠ [] ∧ l.length + (l.length + 1) * (lit "&amp;").length ≤ LIM) ∧ (lit ">" ≠ [] ∧ (replace (lit "&") (lit "&amp;") l).length + ((replace (lit "&") (lit "&amp;") l).length + 1) * (lit "&gt;").length ≤ LIM) ∧
    (lit "<" ≠ [] ∧ (replace (lit ">") (lit "&gt;") (replace (lit "&") (lit "&amp;") l)).length + ((replace (lit ">") (lit "&gt;") (replace (lit "&") (lit "&amp;") l)).length + 1) * (lit "&lt;").length ≤ LIM) := by
  have e1 : (lit "&amp;").length = 5 := rfl
  have e2 : (lit "&gt;").length = 4 := rfl
  have e3 : (lit "&lt;").length = 4 := rfl
  have h1 := replace_len (y := lit "&") (z := lit "&amp;") (l := l) (by decide)
  have h2 := replace_len (y := lit ">") (z := lit "&gt;") (l := replace (lit "&") (lit "&amp;") l) (by decide)
  rw [e1] at h1
  rw [e2] at h2
  unfold LIM
  rw [e1, e2, e3]
  refine ⟨⟨by decide, by omega⟩, ⟨by decide, by omega⟩, ⟨by decide, by omega⟩⟩

theorem r_escape {X : Hp} {n d ep : Nat} {h : Hp} {dv : V} {es : List (List Nat × List Nat)} {l : List Nat} (hl : l.length ≤ 3000) (ho : obj X h dv = some (.dict true ep (encd es))) (hg : okRep es (E3 l)) :
    RetX X (n + 29) (d + 1) b_escape [some (.str l), some dv] h (.str (EE es l)) h := by
  obtain ⟨g1, g2, g3⟩ := E3_ok hl
  refine R_asg (n := n + 28) (h1 := h) (u := .str (replace (lit "&") (lit "&amp;") l)) ?_ ?_
  · simp only [Mi_ev, stepE, evs, evO, Option.bind_some, Option.map_some, List.getD_cons_zero, List.getD_cons_succ, List.set_cons_zero, List.set_cons_succ, C0.val, binop, cmpop, truth, bcall, meth, if_true, if_false, Bool.false_eq_true, if_pos g1]
  refine R_asg (n := n + 27) (h1 := h) (u := .str (replace (lit ">") (lit "&gt;") (replace (lit "&") (lit "&amp;") l))) ?_ ?_
  · simp only [Mi_ev, stepE, evs, evO, Option.bind_some, Option.map_some, List.getD_cons_zero, List.getD_cons_succ, List.set_cons_zero, List.set_cons_succ, C0.val, binop, cmpop, truth, bcall, meth, if_true, if_false, Bool.false_eq_true, if_pos g2]
  refine R_asg (n := n + 26) (h1 := h) (u := .str (E3 l)) ?_ ?_
  · simp only [Mi_ev, stepE, evs, evO, Option.bind_some, Option.map_some, List.getD_cons_zero, List.getD_cons_succ, List.set_cons_zero, List.set_cons_succ, C0.val, binop, cmpop, truth, bcall, meth, if_true, if_false, Bool.false_eq_true, if_pos g3]
    rfl
  have ht := truth_dict ho
  cases es with
  | nil => exact R_no (n := n + 25) (u := dv) (h1 := h) rfl ht T_nil (R_ret (n := n + 24) rfl)
  | cons e r =>
    refine R_yes (n := n + 25) (u := dv) (h1 := h) rfl ht (T_asg (n := n + 24) (u := .str (EE (e :: r) l)) (h1 := h) ?_ T_nil) (R_ret (n := n + 24) rfl)
    simp only [Mi_ev, stepE, evs, evO, Option.bind_some, Option.map_some, List.getD_cons_zero, List.getD_cons_succ, List.set_cons_zero, List.set_cons_succ, C0.val, binop, cmpop, truth, bcall, meth, if_true, if_false, Bool.false_eq_true]
    exact r_dict (n := n + 13) ho hg
end Mine

end

section
open PySem
namespace Mine

theorem shrink_ok : ∀ (es : List (List Nat × List Nat)) (l : List Nat), (∀ e ∈ es, e.1 ≠ [] ∧ e.2.length ≤ e.1.length ∧ e.2.length ≤ 1000) → l.length ≤ 3000 → okRep es l ∧ (es.foldl (fun l e => replace e.1 e.2 l) l).length ≤ l.length
  | [], l, _, _ => ⟨trivial, Nat.le_refl _⟩
  | e :: r, l, h, hl => by
    obtain ⟨h1, h2, h3⟩ := h e (.head _)
    have h4 := replace_le h1 h2 _ l (Nat.le_refl _)
    obtain ⟨h5, h6⟩ := shrink_ok r (replace e.1 e.2 l) (fun q hq => h q (.tail _ hq)) (by omega)
    refine ⟨⟨h1, ?_, h5⟩, ?_⟩
    · have : (l.length + 1) * e.2.length ≤ 3001 * 1000 := Nat.mul_le_mul (by omega) h3
      unfold LIM; omega
    · rw [List.foldl_cons]; omega

theorem UU_ok {es : List (List Nat × List Nat)} {l : List Nat} (he : ∀ e ∈ es, e.1 ≠ [] ∧ e.2.length ≤ e.1.length ∧ e.2.length ≤ 1000) (hl : l.length ≤ 3000) :
    (lit "&lt;" ≠ [] ∧ l.length + (l.length + 1) * (lit "<").length ≤ LIM) ∧ (lit "&gt;" ≠ [] ∧ (replace (lit "&lt;") (lit "<") l).length + ((replace (lit "&lt;") (lit "<") l).length + 1) * (lit ">").length ≤ LIM) ∧
    okRep es (replace (lit "&gt;") (lit ">") (replace (lit "&lt;") (lit "<") l)) ∧
    (lit "&amp;" ≠ [] ∧ (es.foldl (fun l e => replace e.1 e.2 l) (replace (lit "&gt;") (lit ">") (replace (lit "&lt;") (lit "<") l))).length + ((es.foldl (fun l e => replace e.1 e.2 l) (replace (lit "&gt;") (lit ">") (replace (lit "&lt;") (lit "<") l))).length + 1) * (lit "&").length ≤ LIM) ∧ (UU es l).length ≤ l.length := by
  have e1 : (lit "<").length = 1 := rfl
  have e2 : (lit ">").length = 1 := rfl
  have e3 : (lit "&").length = 1 := rfl
  have h1 := replace_le (y := lit "&lt;") (z := lit "<") (by decide) (by decide) _ l (Nat.le_refl _)
  have h2 := replace_le (y := lit "&gt;") (z := lit ">") (by decide) (by decide) _ (replace (lit "&lt;") (lit "<") l) (Nat.le_refl _)
  obtain ⟨h3, h4⟩ := shrink_ok es (replace (lit "&gt;") (lit ">") (replace (lit "&lt;") (lit "<") l)) he (by omega)
  have h5 := replace_le (y := lit "&amp;") (z := lit "&") (by decide) (by decide) _ (es.foldl (fun l e => replace e.1 e.2 l) (replace (lit "&gt;") (lit ">") (replace (lit "&lt;") (lit "<") l))) (Nat.le_refl _)
  unfold LIM UU
  rw [e1, e2, e3]
  exact ⟨⟨by decide, by omega⟩, ⟨by decide, by omega⟩, h3, ⟨by decide, by omega⟩, by omega⟩

theorem r_unescape {X : Hp} {n d ep : Nat} {h : Hp} {dv : V} {es : List (List Nat × List Nat)} {l : List Nat} (hl : l.length ≤ 3000) (ho : obj X h dv = some (.dict true ep (encd es))) (he : ∀ e ∈ es, e.1 ≠ [] ∧ e.2.length ≤ e.1.length ∧ e.2.length ≤ 1000) :
    RetX X (n + 29) (d + 1) b_unescape [some (.str l), some dv] h (.str (UU es l)) h := by
  obtain ⟨g1, g2, g3, g4, _⟩ := UU_ok he hl
  refine R_asg (n := n + 28) (h1 := h) (u := .str (replace (lit "&lt;") (lit "<") l)) ?_ ?_
  · simp only [Mi_ev, stepE, evs, evO, Option.bind_some, Option.map_some, List.getD_cons_zero, List.getD_cons_succ, List.set_cons_zero, List.set_cons_succ, C0.val, binop, cmpop, truth, bcall, meth, if_true, if_false, Bool.false_eq_true, if_pos g1]
  refine R_asg (n := n + 27) (h1 := h) (u := .str (replace (lit "&gt;") (lit ">") (replace (lit "&lt;") (lit "<") l))) ?_ ?_
  · simp only [Mi_ev, stepE, evs, evO, Option.bind_some, Option.map_some, List.getD_cons_zero, List.getD_cons_succ, List.set_cons_zero, List.set_cons_succ, C0.val, binop, cmpop, truth, bcall, meth, if_true, if_false, Bool.false_eq_true, if_pos g2]
  have ht := truth_dict ho
  cases es with
  | nil =>
    refine R_no (n := n + 26) (u := dv) (h1 := h) rfl ht T_nil (R_ret (n := n + 25) ?_)
    simp only [Mi_ev, stepE, evs, evO, Option.bind_some, Option.map_some, List.getD_cons_zero, List.getD_cons_succ, List.set_cons_zero, List.set_cons_succ, C0.val, binop, cmpop, truth, bcall, meth, if_true, if_false, Bool.false_eq_true]
    simp only [List.foldl_nil] at g4
    rw [if_pos g4]
    rfl
  | cons e r =>
    refine R_yes (n := n + 26) (u := dv) (h1 := h) rfl ht (T_asg (n := n + 25) (u := .str ((e :: r).foldl (fun l e => replace e.1 e.2 l) (replace (lit "&gt;") (lit ">") (replace (lit "&lt;") (lit "<") l)))) (h1 := h) ?_ T_nil) (R_ret (n := n + 25) ?_)
    · simp only [Mi_ev, stepE, evs, evO, Option.bind_some, Option.map_some, List.getD_cons_zero, List.getD_cons_succ, List.set_cons_zero, List.set_cons_succ, C0.val, binop, cmpop, truth, bcall, meth, if_true, if_false, Bool.false_eq_true]
      exact r_dict (n := n + 14) ho g3
    · simp only [Mi_ev, stepE, evs, evO, Option.bind_some, Option.map_some, List.getD_cons_zero, List.getD_cons_succ, List.set_cons_zero, List.set_cons_succ, C0.val, binop, cmpop, truth, bcall, meth, if_true, if_false, Bool.false_eq_true]
      rw [if_pos g4]
      rfl

theorem inStr_one {c : Nat} : ∀ l : List Nat, inStr [c] l = decide (c ∈ l)
  | [] => by simp [inStr]
  | x :: r => by
    rw [inStr, inStr_one r]
    by_cases h : c = x
    · subst h; simp [List.isPrefixOf]
    · simp [List.isPrefixOf, h]

theorem EE_ok {l : List Nat} (hl : l.length ≤ 3000) : okRep whites (E3 l) ∧ (EE whites l).length ≤ 18000 := by
  have h0 : ∀ x, (code3 x).length ≤ 5 := fun x => cases7 (P := fun x => (code3 x).length ≤ 5) (by decide) (by decide) (by decide) (by decide) (by decide) (by decide) (by decide) (fun x _ _ _ _ h5 h6 h7 => by rw [one3 h5 h6 h7]; show 1 ≤ 5; decide) x
  have h6 : ∀ x, (code6 x).length ≤ 5 := fun x => cases7 (P := fun x => (code6 x).length ≤ 5) (by decide) (by decide) (by decide) (by decide) (by decide) (by decide) (by decide) (fun x _ h2 h3 h4 h5 h6 h7 => by rw [one6 h2 h3 h4 h5 h6 h7]; show 1 ≤ 5; decide) x
  have hf : ∀ (f : Nat → List Nat), (∀ x, (f x).length ≤ 5) → ∀ l : List Nat, (l.flatMap f).length ≤ 5 * l.length := by
    intro f hf l
    induction l with
    | nil => simp
    | cons x r ih => rw [List.flatMap_cons, List.length_append, List.length_cons]; have := hf x; omega
  have h3 : (E3 l).length ≤ 5 * l.length := by rw [E3_code]; exact hf _ h0 l
  have h7 : (EE whites l).length ≤ 5 * l.length := by rw [E6_code]; exact hf _ h6 l
  refine ⟨?_, by omega⟩
  have e1 : (lit "&#10;").length = 5 := rfl
  have e2 : (lit "&#13;").length = 5 := rfl
  have e3 : (lit "&#9;").length = 4 := rfl
  have k1 := replace_len (y := lit "\n") (z := lit "&#10;") (l := E3 l) (by decide)
  have k2 := replace_len (y := lit "\r") (z := lit "&#13;") (l := replace (lit "\n") (lit "&#10;") (E3 l)) (by decide)
  rw [e1] at k1
  rw [e2] at k2
  show (lit "\n" ≠ [] ∧ (E3 l).length + ((E3 l).length + 1) * (lit "&#10;").length ≤ LIM ∧ (lit "\r" ≠ [] ∧ (replace (lit "\n") (lit "&#10;") (E3 l)).length + ((replace (lit "\n") (lit "&#10;") (E3 l)).length + 1) * (lit "&#13;").length ≤ LIM ∧
    (lit "\t" ≠ [] ∧ (replace (lit "\r") (lit "&#13;") (replace (lit "\n") (lit "&#10;") (E3 l))).length + ((replace (lit "\r") (lit "&#13;") (replace (lit "\n") (lit "&#10;") (E3 l))).length + 1) * (lit "&#9;").length ≤ LIM ∧ True)))
  rw [e1, e2, e3]
  unfold LIM
  exact ⟨by decide, by omega, by decide, by omega, by decide, by omega, trivial⟩

section
variable {X : Hp} {n d : Nat} {h : Hp} {l : List Nat}

theorem r_plain (hX : X[1]? = some (.dict true 0 [])) (hl : l.length ≤ 3000) : (Mi funs X (n + 40) (d + 3)).cl 7 [.str l] h = some (.str (W1 l), h) := by
  refine cl_is (n := n + 39) f_7 rfl (R_ret (n := n + 38) ?_)
  simp only [Mi_ev, stepE, evs, evO, Option.bind_some, Option.map_some, List.getD_cons_zero, List.getD_cons_succ, List.set_cons_zero, List.set_cons_succ, C0.val, binop, cmpop, truth, bcall, meth, if_true, if_false, Bool.false_eq_true]
  refine cl_dflt (n := n + 36) (j := 1) f_1 rfl rfl (r_escape (n := n + 7) (es := []) (ep := 0) hl hX trivial)
theorem r_marked (hl : l.length ≤ 3000) : (Mi funs X (n + 40) (d + 3)).cl 8 [.str l] h = some (.str (W2 l), h ++ [.dict true 1 (encd [(lit "\"", lit "&quot;")])]) := by
  refine cl_is (n := n + 39) f_8 rfl (R_ret (n := n + 38) ?_)
  simp only [Mi_ev, stepE, evs, evO, Option.bind_some, Option.map_some, List.getD_cons_zero, List.getD_cons_succ, List.set_cons_zero, List.set_cons_succ, C0.val, binop, cmpop, truth, bcall, meth, if_true, if_false, Bool.false_eq_true, pairs]
  refine cl_is (n := n + 36) f_1 rfl (r_escape (n := n + 7) (es := [(lit "\"", lit "&quot;")]) (ep := 1) hl ?_ ?_)
  · show (h ++ [_])[h.length]? = _
    simp [encd]
  · have h3 : (E3 l).length ≤ 5 * l.length := by
      rw [E3_code]
      have h0 : ∀ x, (code3 x).length ≤ 5 := fun x => cases7 (P := fun x => (code3 x).length ≤ 5) (by decide) (by decide) (by decide) (by decide) (by decide) (by decide) (by decide) (fun x _ _ _ _ h5 h6 h7 => by rw [one3 h5 h6 h7]; show 1 ≤ 5; decide) x
      clear hl
      induction l with
      | nil => simp
      | cons x r ih => rw [List.flatMap_cons, List.length_append, List.length_cons]; have := h0 x; omega
    show (lit "\"" ≠ [] ∧ _ + (_ + 1) * (lit "&quot;").length ≤ LIM ∧ True)
    rw [show (lit "&quot;").length = 6 from rfl]
    unfold LIM
    exact ⟨by decide, by omega, trivial⟩

theorem r_quoteattr (hX : X[3]? = some (.dict true 0 [])) (hl : l.length ≤ 3000) : (Mi funs X (n + 40) (d + 3)).cl 3 [.str l] h = some (.str (W3 l), h ++ [.dict true 3 (encd whites)]) := by
  obtain ⟨g1, g2⟩ := EE_ok hl
  refine cl_dflt (n := n + 39) (j := 3) f_3 rfl rfl ?_
  show RetX X (n + 39) (d + 2) b_quoteattr [some (.str l), some (.ext 3)] h _ _
  refine R_asg (n := n + 38) (u := .ref h.length) (h1 := h ++ [.dict true 3 (encd whites)]) ?_ ?_
  · simp only [Mi_ev, stepE, evs, evO, Option.bind_some, Option.map_some, List.getD_cons_zero, List.getD_cons_succ, List.set_cons_zero, List.set_cons_succ, C0.val, binop, cmpop, truth, bcall, meth, if_true, if_false, Bool.false_eq_true]
    show (match X[3]? with | some (.dict rep _ es) => _ | _ => _) = _
    rw [hX]
    rfl
  refine R_asg (n := n + 37) (u := .str (EE whites l)) (h1 := h ++ [.dict true 3 (encd whites)]) ?_ ?_
  · simp only [Mi_ev, stepE, evs, evO, Option.bind_some, Option.map_some, List.getD_cons_zero, List.getD_cons_succ, List.set_cons_zero, List.set_cons_succ, C0.val, binop, cmpop, truth, bcall, meth, if_true, if_false, Bool.false_eq_true]
    refine cl_is (n := n + 35) f_1 rfl (r_escape (n := n + 6) (es := whites) (ep := 3) hl ?_ g1)
    show (h ++ [_])[h.length]? = _
    simp
  have hi : inStr (lit "\"") (EE whites l) = decide (34 ∈ EE whites l) := inStr_one _
  have hj : inStr (lit "'") (EE whites l) = decide (39 ∈ EE whites l) := inStr_one _
  have k1 := replace_len (y := lit "\"") (z := lit "&quot;") (l := EE whites l) (by decide)
  rw [show (lit "&quot;").length = 6 from rfl] at k1
  by_cases h1 : 34 ∈ EE whites l
  · refine R_yes (n := n + 36) (u := .bool true) (h1 := h ++ [.dict true 3 (encd whites)]) ?_ rfl (m2 := [some (.str (W3 l)), some (.ref h.length)]) (h2 := h ++ [.dict true 3 (encd whites)]) ?_ (R_ret (n := n + 35) rfl)
    · simp only [Mi_ev, stepE, evs, evO, Option.bind_some, Option.map_some, List.getD_cons_zero, List.getD_cons_succ, List.set_cons_zero, List.set_cons_succ, C0.val, binop, cmpop, truth, bcall, meth, if_true, if_false, Bool.false_eq_true, hi, decide_eq_true h1]
    by_cases h2 : 39 ∈ EE whites l
    · have w : W3 l = 34 :: (replace (lit "\"") (lit "&quot;") (EE whites l) ++ [34]) := by unfold W3; rw [if_pos h1, if_pos h2]
      rw [w]
      refine T_yes (n := n + 35) (u := .bool true) (h1 := h ++ [.dict true 3 (encd whites)]) ?_ rfl (m2 := [some (.str (34 :: (replace (lit "\"") (lit "&quot;") (EE whites l) ++ [34]))), some (.ref h.length)]) (h2 := h ++ [.dict true 3 (encd whites)]) (T_asg (n := n + 34) (u := .str (34 :: (replace (lit "\"") (lit "&quot;") (EE whites l) ++ [34]))) (h1 := h ++ [.dict true 3 (encd whites)]) ?_ T_nil) T_nil
      · simp only [Mi_ev, stepE, evs, evO, Option.bind_some, Option.map_some, List.getD_cons_zero, List.getD_cons_succ, List.set_cons_zero, List.set_cons_succ, C0.val, binop, cmpop, truth, bcall, meth, if_true, if_false, Bool.false_eq_true, hj, decide_eq_true h2]
      · simp only [Mi_ev, stepE, evs, evO, Option.bind_some, Option.map_some, List.getD_cons_zero, List.getD_cons_succ, List.set_cons_zero, List.set_cons_succ, C0.val, binop, cmpop, truth, bcall, meth, if_true, if_false, Bool.false_eq_true]
        rw [if_pos ⟨by decide, by rw [show (lit "&quot;").length = 6 from rfl]; unfold LIM; omega⟩]
        simp only [Mi_ev, stepE, evs, evO, Option.bind_some, Option.map_some, List.getD_cons_zero, List.getD_cons_succ, List.set_cons_zero, List.set_cons_succ, C0.val, binop, cmpop, truth, bcall, meth, if_true, if_false, Bool.false_eq_true]
        rw [if_pos (by omega)]
        rfl
    · have w : W3 l = 39 :: (EE whites l ++ [39]) := by unfold W3; rw [if_pos h1, if_neg h2]
      rw [w]
      refine T_no (n := n + 35) (u := .bool false) (h1 := h ++ [.dict true 3 (encd whites)]) ?_ rfl (m2 := [some (.str (39 :: (EE whites l ++ [39]))), some (.ref h.length)]) (h2 := h ++ [.dict true 3 (encd whites)]) (T_asg (n := n + 34) (u := .str (39 :: (EE whites l ++ [39]))) (h1 := h ++ [.dict true 3 (encd whites)]) ?_ T_nil) T_nil
      · simp only [Mi_ev, stepE, evs, evO, Option.bind_some, Option.map_some, List.getD_cons_zero, List.getD_cons_succ, List.set_cons_zero, List.set_cons_succ, C0.val, binop, cmpop, truth, bcall, meth, if_true, if_false, Bool.false_eq_true, hj, decide_eq_false h2]
      · simp only [Mi_ev, stepE, evs, evO, Option.bind_some, Option.map_some, List.getD_cons_zero, List.getD_cons_succ, List.set_cons_zero, List.set_cons_succ, C0.val, binop, cmpop, truth, bcall, meth, if_true, if_false, Bool.false_eq_true]
        rw [if_pos (by omega)]
        rfl
  · have w : W3 l = 34 :: (EE whites l ++ [34]) := by unfold W3; rw [if_neg h1]
    rw [w]
    refine R_no (n := n + 36) (u := .bool false) (h1 := h ++ [.dict true 3 (encd whites)]) ?_ rfl (m2 := [some (.str (34 :: (EE whites l ++ [34]))), some (.ref h.length)]) (h2 := h ++ [.dict true 3 (encd whites)]) (T_asg (n := n + 35) (u := .str (34 :: (EE whites l ++ [34]))) (h1 := h ++ [.dict true 3 (encd whites)]) ?_ T_nil) (R_ret (n := n + 35) rfl)
    · simp only [Mi_ev, stepE, evs, evO, Option.bind_some, Option.map_some, List.getD_cons_zero, List.getD_cons_succ, List.set_cons_zero, List.set_cons_succ, C0.val, binop, cmpop, truth, bcall, meth, if_true, if_false, Bool.false_eq_true, hi, decide_eq_false h1]
    · simp only [Mi_ev, stepE, evs, evO, Option.bind_some, Option.map_some, List.getD_cons_zero, List.getD_cons_succ, List.set_cons_zero, List.set_cons_succ, C0.val, binop, cmpop, truth, bcall, meth, if_true, if_false, Bool.false_eq_true]
      rw [if_pos (by omega)]
      rfl
end
end Mine

end

section
open PySem
namespace Mine

noncomputable def rdTest : ME := match b_law_read with | .cons _ (.cons (.while t _ _) _) => t | _ => .cst .none ⟨0, 0, 0, 0⟩
noncomputable def rdBody : MSs := match b_law_read with | .cons _ (.cons (.while _ b _) _) => b | _ => .nil
noncomputable def rdTail : MSs := match rdBody with | .cons _ (.cons _ r) => r | _ => .nil
noncomputable def rdFor : MSs := match rdBody with | .cons _ (.cons (.ite _ (.cons _ (.cons (.for1 _ _ _ b _) _)) _ _) _) => b | _ => .nil

section
variable {X : Hp} {n d : Nat} {m : M} {h h1 h2 : Hp} {S : Sm}
theorem T_asg2 {r : MSs} {i j : Nat} {a b : ME} {u v : V} {p1 p2 p3 p4 p5 : Pos} {m3 : M} {h3 : Hp} (ha : (Mi funs X n d).ev a m h = some (u, h1)) (hb : (Mi funs X n d).ev b m h1 = some (v, h2)) (k : Thru X n d r ((m.set i (some u)).set j (some v)) h2 m3 h3) : Thru X (n + 1) d (.cons (.asg2 i j p1 p2 p3 a b p4 p5) r) m h m3 h3 := by
  refine T_next ?_ k
  rw [stepS, ha, Option.bind_some]
  show ((Mi funs X n d).ev b m h1).bind _ = _
  rw [hb]; rfl
theorem R_asg2 {r : MSs} {i j : Nat} {a b : ME} {u v w : V} {p1 p2 p3 p4 p5 : Pos} {h3 : Hp} (ha : (Mi funs X n d).ev a m h = some (u, h1)) (hb : (Mi funs X n d).ev b m h1 = some (v, h2)) (k : RetX X n d r ((m.set i (some u)).set j (some v)) h2 w h3) : RetX X (n + 1) d (.cons (.asg2 i j p1 p2 p3 a b p4 p5) r) m h w h3 := by
  refine R_next ?_ k
  rw [stepS, ha, Option.bind_some]
  show ((Mi funs X n d).ev b m h1).bind _ = _
  rw [hb]; rfl
theorem S_for {x : Nat} {xp p : Pos} {it : ME} {b : MSs} {vs : List V} {chk : Hp → Bool} (hi : iter1 X S it m h = some (vs, chk, h1)) : stepS X S (.for1 x xp it b p) m h = mfor S chk x b vs m h1 := by rw [stepS, hi]; rfl
theorem F_nil {chk : Hp → Bool} {x : Nat} {b : MSs} (hc : chk h = true) : mfor S chk x b [] m h = some (.next, m, h) := by rw [mfor, if_pos hc]
theorem F_turn {chk : Hp → Bool} {x : Nat} {b : MSs} {v : V} {vs : List V} {m1 : M} (hc : chk h = true) (hb : S.ex b (m.set x (some v)) h = some (.next, m1, h1)) : mfor S chk x b (v :: vs) m h = mfor S chk x b vs m1 h1 := by rw [mfor, if_pos hc, hb]; rfl
theorem F_ret {chk : Hp → Bool} {x : Nat} {b : MSs} {v w : V} {vs : List V} {m1 : M} (hc : chk h = true) (hb : S.ex b (m.set x (some v)) h = some (.ret w, m1, h1)) : mfor S chk x b (v :: vs) m h = some (.ret w, m1, h1) := by rw [mfor, if_pos hc, hb]; rfl
theorem W_stop {t : ME} {b : MSs} {k : Nat} {u : V} (he : S.ev t m h = some (u, h1)) (ht : truth X h1 u = some false) : mwhile X S t b (k + 1) m h = some (.next, m, h1) := by
  rw [mwhile, he, Option.bind_some]
  show ((truth X h1 u).bind _) = _
  rw [ht]; rfl
theorem W_turn {t : ME} {b : MSs} {k : Nat} {u : V} {m1 : M} (he : S.ev t m h = some (u, h1)) (ht : truth X h1 u = some true) (hb : S.ex b m h1 = some (.next, m1, h2)) : mwhile X S t b (k + 1) m h = mwhile X S t b k m1 h2 := by
  rw [mwhile, he, Option.bind_some]
  show ((truth X h1 u).bind _) = _
  rw [ht]
  show ((S.ex b m h1).bind _) = _
  rw [hb]; rfl
theorem W_ret {t : ME} {b : MSs} {k : Nat} {u w : V} {m1 : M} (he : S.ev t m h = some (u, h1)) (ht : truth X h1 u = some true) (hb : S.ex b m h1 = some (.ret w, m1, h2)) : mwhile X S t b (k + 1) m h = some (.ret w, m1, h2) := by
  rw [mwhile, he, Option.bind_some]
  show ((truth X h1 u).bind _) = _
  rw [ht]
  show ((S.ex b m h1).bind _) = _
  rw [hb]; rfl
end

theorem clamp_nat (a n : Nat) : clamp (a : Int) n = min a n := by unfold clamp; rw [if_neg (by omega)]; simp
theorem slc_at (l : List Nat) (a k : Nat) : slc l (some (a : Int)) (some ((a : Int) + (k : Int))) = (l.drop a).take k := by
  unfold slc
  have e : ((a : Int) + (k : Int)) = ((a + k : Nat) : Int) := by omega
  simp only [Option.map_some, Option.getD_some, e, clamp_nat]
  rw [List.take_eq_take_iff.mpr (show min (min (a + k) l.length) l.length = min (a + k) l.length by omega)]
  by_cases h : a ≤ l.length
  · rw [Nat.min_eq_left h, List.drop_take, show a + k - a = k by omega]
  · rw [List.drop_eq_nil_of_le (by rw [List.length_take]; omega), List.drop_eq_nil_of_le (by omega)]; simp
theorem idx_at {X h : Hp} {l : List Nat} {a c : Nat} {r : List Nat} (e : l.drop a = c :: r) : idxv X h (.str l) (.int (a : Int)) = some (.str [c]) := by
  have hl : a < l.length := by
    rcases Nat.lt_or_ge a l.length with h | h
    · exact h
    · rw [List.drop_eq_nil_of_le h] at e; cases e
  have hc : l[a]? = some c := by
    rw [List.drop_eq_getElem_cons hl] at e
    rw [List.getElem?_eq_getElem hl]
    injection e with e1 e2
    rw [e1]
  show Option.map _ ((nidx (a : Int) l.length).bind fun j => l[j]?) = _
  unfold nidx
  rw [if_pos (by omega)]
  simp only [Int.toNat_natCast, if_pos hl, Option.bind_some, hc, Option.map_some]

section
variable {X : Hp} {n d k ep : Nat} {h : Hp} {t bare : List Nat} {rep : Bool} {es : List (List Nat × V)}

theorem rd_tail0 {a0 a1 a2 a3 a4 a5 a7 : Option V} : RetX X (n + 6) d rdTail [a0, a1, a2, a3, a4, a5, some (.int 0), a7] h .none h := by
  refine R_yesR (n := n + 5) (u := .bool true) (h1 := h) ?_ rfl (R_ret (n := n + 4) rfl)
  simp only [Mi_ev, stepE, evs, evO, Option.bind_some, Option.map_some, List.getD_cons_zero, List.getD_cons_succ, List.set_cons_zero, List.set_cons_succ, C0.val, binop, cmpop, truth, bcall, meth, if_true, if_false, Bool.false_eq_true]
  rfl
theorem rd_tail1 {a0 a1 a2 a7 : Option V} {r s : List Nat} {i z : Nat} (hz : z ≠ 0) (hl : r.length + s.length ≤ LIM) : Thru X (n + 6) d rdTail [a0, a1, a2, some (.str r), some (.int (i : Int)), some (.str s), some (.int (z : Int)), a7] h
    [a0, a1, a2, some (.str (r ++ s)), some (.int ((i + z : Nat) : Int)), some (.str s), some (.int (z : Int)), a7] h := by
  refine T_no (n := n + 5) (u := .bool false) (h1 := h) ?_ rfl T_nil (T_asg2 (n := n + 4) (h1 := h) (h2 := h) (u := .str (r ++ s)) (v := .int ((i + z : Nat) : Int)) ?_ ?_ T_nil)
  · simp only [Mi_ev, stepE, evs, evO, Option.bind_some, Option.map_some, List.getD_cons_zero, List.getD_cons_succ, List.set_cons_zero, List.set_cons_succ, C0.val, binop, cmpop, truth, bcall, meth, if_true, if_false, Bool.false_eq_true]
    rw [decide_eq_false (by omega)]
  · simp only [Mi_ev, stepE, evs, evO, Option.bind_some, Option.map_some, List.getD_cons_zero, List.getD_cons_succ, List.set_cons_zero, List.set_cons_succ, C0.val, binop, cmpop, truth, bcall, meth, if_true, if_false, Bool.false_eq_true]
    rw [if_pos hl]
    rfl
  · simp only [Mi_ev, stepE, evs, evO, Option.bind_some, Option.map_some, List.getD_cons_zero, List.getD_cons_succ, List.set_cons_zero, List.set_cons_succ, C0.val, binop, cmpop, truth, bcall, meth, if_true, if_false, Bool.false_eq_true]
    rw [show (i : Int) + (z : Int) = ((i + z : Nat) : Int) by omega]

theorem rd_for (ho : h[k]? = some (.dict rep ep es)) {i : Nat} {a2 a3 : Option V} : ∀ (es' : List (List Nat × V)) (a : List Nat × Nat) (y : Option V), (∀ e ∈ es', keyIn e.1 es = some (.str (sg e.1))) →
    ∃ y', mfor (Mi funs X (n + 9) d) (fun h' => decide (h'[k]? = some (.dict rep ep es))) 7 rdFor (es'.map fun e => V.str e.1) [some (.str t), some (.ref k), a2, a3, some (.int (i : Int)), some (.str a.1), some (.int (a.2 : Int)), y] h =
      some (.next, [some (.str t), some (.ref k), a2, a3, some (.int (i : Int)), some (.str ((es'.map (·.1)).foldl (fun a nm => if (t.drop i).take nm.length = nm then (sg nm, nm.length) else a) a).1),
        some (.int ((((es'.map (·.1)).foldl (fun a nm => if (t.drop i).take nm.length = nm then (sg nm, nm.length) else a) a).2 : Nat) : Int)), y'], h)
  | [], a, y, _ => ⟨y, F_nil (decide_eq_true ho)⟩
  | e :: es', a, y, hk => by
    have hk1 := hk e (.head _)
    obtain ⟨y', ih⟩ := rd_for ho es' (if (t.drop i).take e.1.length = e.1 then (sg e.1, e.1.length) else a) (some (.str e.1)) fun q hq => hk q (.tail _ hq)
    refine ⟨y', ?_⟩
    rw [List.map_cons, List.map_cons, List.foldl_cons, ← ih]
    refine F_turn (decide_eq_true ho) ?_
    show Thru X (n + 9) d rdFor [some (.str t), some (.ref k), a2, a3, some (.int (i : Int)), some (.str a.1), some (.int (a.2 : Int)), some (.str e.1)] h _ h
    by_cases hc : (t.drop i).take e.1.length = e.1
    · rw [if_pos hc]
      refine T_yes (n := n + 8) (u := .bool true) (h1 := h) (h2 := h) ?_ rfl (T_asg2 (n := n + 7) (h1 := h) (h2 := h) (u := .str (sg e.1)) (v := .int (e.1.length : Int)) ?_ ?_ T_nil) T_nil
      · simp only [Mi_ev, stepE, evs, evO, Option.bind_some, Option.map_some, List.getD_cons_zero, List.getD_cons_succ, List.set_cons_zero, List.set_cons_succ, C0.val, binop, cmpop, truth, bcall, meth, if_true, if_false, Bool.false_eq_true, slc_at]
        rw [decide_eq_true hc]
      · simp only [Mi_ev, stepE, evs, evO, Option.bind_some, Option.map_some, List.getD_cons_zero, List.getD_cons_succ, List.set_cons_zero, List.set_cons_succ, C0.val, binop, cmpop, truth, bcall, meth, if_true, if_false, Bool.false_eq_true]
        show Option.map _ (idxv X h (.ref k) (.str e.1)) = _
        unfold idxv
        show Option.map _ (match h[k]? with | some (.dict _ _ es) => keyIn e.1 es | _ => _) = _
        rw [ho]
        show Option.map _ (keyIn e.1 es) = _
        rw [hk1]; rfl
      · simp only [Mi_ev, stepE, evs, evO, Option.bind_some, Option.map_some, List.getD_cons_zero, List.getD_cons_succ, List.set_cons_zero, List.set_cons_succ, C0.val, binop, cmpop, truth, bcall, meth, if_true, if_false, Bool.false_eq_true]
    · rw [if_neg hc]
      refine T_no (n := n + 8) (u := .bool false) (h1 := h) (h2 := h) ?_ rfl T_nil T_nil
      · simp only [Mi_ev, stepE, evs, evO, Option.bind_some, Option.map_some, List.getD_cons_zero, List.getD_cons_succ, List.set_cons_zero, List.set_cons_succ, C0.val, binop, cmpop, truth, bcall, meth, if_true, if_false, Bool.false_eq_true, slc_at]
        rw [decide_eq_false hc]
end
end Mine

end

section
open PySem
namespace Mine

theorem pick_cases {names : List (List Nat)} {s : List Nat → List Nat} {l : List Nat} : (pick names s l).2 = 0 ∨ ((pick names s l).2 ≤ l.length ∧ ∃ nm ∈ names, (pick names s l).1 = s nm) := by
  rcases pick_aux (sg := s) (l := l) names ([38], 0) with h | ⟨nm, h1, h2, h3⟩
  · exact .inl (congrArg Prod.snd h)
  · refine .inr ⟨?_, nm, h1, congrArg Prod.fst h3⟩
    rw [show (pick names s l).2 = nm.length from congrArg Prod.snd h3]
    have := congrArg List.length h2
    rw [List.length_take] at this
    omega

section
variable {X : Hp} {n d k ep : Nat} {h : Hp} {t bare : List Nat} {rep : Bool} {es : List (List Nat × V)}

/-- what the reader's step lays down ahead of the tail -/
theorem rd_head (ho : h[k]? = some (.dict rep ep es)) (hk : ∀ e ∈ es, keyIn e.1 es = some (.str (sg e.1))) {i c : Nat} {r rd0 : List Nat} {x5 x6 x7 : Option V} (hd : t.drop i = c :: r) :
    ∃ y, (Mi funs X (n + 18) d).ex rdBody [some (.str t), some (.ref k), some (.str bare), some (.str rd0), some (.int (i : Int)), x5, x6, x7] h =
      (Mi funs X (n + 16) d).ex rdTail [some (.str t), some (.ref k), some (.str bare), some (.str rd0), some (.int (i : Int)), some (.str (rstep (es.map (·.1)) sg bare (c :: r)).1), some (.int (((rstep (es.map (·.1)) sg bare (c :: r)).2 : Nat) : Int)), y] h := by
  have first : ∀ {rr : MSs} {p1 p2 p3 p4 p5 p6 p7 p8 p9 : Pos}, (Mi funs X (n + 18) d).ex (.cons (.asg2 5 6 p1 p2 p3 (.idx (.loc 0 p4) (.loc 4 p5) p6) (.cst (.int 1) p7) p8 p9) rr) [some (.str t), some (.ref k), some (.str bare), some (.str rd0), some (.int (i : Int)), x5, x6, x7] h =
      (Mi funs X (n + 17) d).ex rr [some (.str t), some (.ref k), some (.str bare), some (.str rd0), some (.int (i : Int)), some (.str [c]), some (.int 1), x7] h := by
    intro rr p1 p2 p3 p4 p5 p6 p7 p8 p9
    refine X_next ?_
    rw [stepS]
    simp only [Mi_ev, stepE, evs, evO, Option.bind_some, Option.map_some, List.getD_cons_zero, List.getD_cons_succ, List.set_cons_zero, List.set_cons_succ, C0.val, binop, cmpop, truth, bcall, meth, if_true, if_false, Bool.false_eq_true]
    rw [idx_at hd]
    rfl
  have amp38 : lit "&" = [38] := rfl
  rw [rstep_cons]
  by_cases hc : c = 38
  · subst hc
    rw [if_pos rfl]
    obtain ⟨y', hf⟩ := rd_for (X := X) (n := n + 5) (d := d) (t := t) (a2 := some (.str bare)) (a3 := some (.str rd0)) (i := i) ho es ([38], 0) x7 hk
    refine ⟨y', ?_⟩
    refine first.trans (X_next ?_)
    refine (S_yes (v := .bool true) (h1 := h) ?_ rfl).trans ?_
    · simp only [Mi_ev, stepE, evs, evO, Option.bind_some, Option.map_some, List.getD_cons_zero, List.getD_cons_succ, List.set_cons_zero, List.set_cons_succ, C0.val, binop, cmpop, truth, bcall, meth, if_true, if_false, Bool.false_eq_true, amp38]
      rfl
    · show (Mi funs X (n + 16) d).ex (.cons (.asg 6 _ _ _) (.cons (.for1 7 _ _ rdFor _) .nil)) _ _ = _
      refine (X_next (S_asg (v := .int 0) (h1 := h) rfl)).trans ?_
      refine (X_next (n := n + 14) (m1 := [some (.str t), some (.ref k), some (.str bare), some (.str rd0), some (.int (i : Int)), some (.str (pick (es.map (·.1)) sg (38 :: r)).1), some (.int (((pick (es.map (·.1)) sg (38 :: r)).2 : Nat) : Int)), y']) (h1 := h) ?_).trans X_nil
      rw [hd] at hf
      refine (S_for (vs := es.map fun e => V.str e.1) (chk := fun h' => decide (h'[k]? = some (.dict rep ep es))) (h1 := h) ?_).trans hf
      show (match h[k]? with | some (.list vs) => _ | some (.dict r ep es) => _ | _ => _) = _
      rw [ho]
  · rw [if_neg hc]
    have hne : decide ([c] = [38]) = false := decide_eq_false (by simpa using hc)
    by_cases hb : c ∈ bare
    · rw [if_pos hb]
      refine ⟨x7, first.trans (X_next ((S_no (v := .bool false) (h1 := h) ?_ rfl).trans ?_))⟩
      · simp only [Mi_ev, stepE, evs, evO, Option.bind_some, Option.map_some, List.getD_cons_zero, List.getD_cons_succ, List.set_cons_zero, List.set_cons_succ, C0.val, binop, cmpop, truth, bcall, meth, if_true, if_false, Bool.false_eq_true, amp38, hne]
      · refine (X_next (n := n + 15) (m1 := [some (.str t), some (.ref k), some (.str bare), some (.str rd0), some (.int (i : Int)), some (.str [c]), some (.int 0), x7]) (h1 := h) ?_).trans X_nil
        refine (S_yes (v := .bool true) (h1 := h) ?_ rfl).trans ((X_next (n := n + 14) (S_asg (v := .int 0) (h1 := h) rfl)).trans X_nil)
        simp only [Mi_ev, stepE, evs, evO, Option.bind_some, Option.map_some, List.getD_cons_zero, List.getD_cons_succ, List.set_cons_zero, List.set_cons_succ, C0.val, binop, cmpop, truth, bcall, meth, if_true, if_false, Bool.false_eq_true, inStr_one, decide_eq_true hb]
    · rw [if_neg hb]
      refine ⟨x7, first.trans (X_next ((S_no (v := .bool false) (h1 := h) ?_ rfl).trans ?_))⟩
      · simp only [Mi_ev, stepE, evs, evO, Option.bind_some, Option.map_some, List.getD_cons_zero, List.getD_cons_succ, List.set_cons_zero, List.set_cons_succ, C0.val, binop, cmpop, truth, bcall, meth, if_true, if_false, Bool.false_eq_true, amp38, hne]
      · refine (X_next (n := n + 15) (m1 := [some (.str t), some (.ref k), some (.str bare), some (.str rd0), some (.int (i : Int)), some (.str [c]), some (.int 1), x7]) (h1 := h) ?_).trans X_nil
        refine (S_no (v := .bool false) (h1 := h) ?_ rfl).trans X_nil
        simp only [Mi_ev, stepE, evs, evO, Option.bind_some, Option.map_some, List.getD_cons_zero, List.getD_cons_succ, List.set_cons_zero, List.set_cons_succ, C0.val, binop, cmpop, truth, bcall, meth, if_true, if_false, Bool.false_eq_true, inStr_one, decide_eq_false hb]

theorem rstep_len (hl : ∀ e ∈ es, (sg e.1).length = 1) {c : Nat} {r : List Nat} (hne : (rstep (es.map (·.1)) sg bare (c :: r)).2 ≠ 0) : (rstep (es.map (·.1)) sg bare (c :: r)).1.length = 1 ∧ (rstep (es.map (·.1)) sg bare (c :: r)).2 ≤ (c :: r).length := by
  rw [rstep_cons] at hne ⊢
  by_cases hc : c = 38
  · rw [if_pos hc] at hne ⊢
    rcases pick_cases (names := es.map (·.1)) (s := sg) (l := c :: r) with e | ⟨h1, nm, h2, h3⟩
    · exact absurd e hne
    · obtain ⟨e, he, rfl⟩ := List.mem_map.mp h2
      rw [h3]
      exact ⟨hl e he, h1⟩
  · rw [if_neg hc] at hne ⊢
    split at hne
    · exact absurd rfl hne
    · rename_i hb
      rw [if_neg hb]
      exact ⟨rfl, by simp⟩

theorem rd_while (ho : h[k]? = some (.dict rep ep es)) (hk : ∀ e ∈ es, keyIn e.1 es = some (.str (sg e.1))) (hl : ∀ e ∈ es, (sg e.1).length = 1) (ht : t.length ≤ 3000) : ∀ (q f i : Nat) (rd0 : List Nat) (x5 x6 x7 : Option V), i ≤ t.length → t.length - i < q → t.length - i ≤ f → rd0.length ≤ i →
    ∃ m', mwhile X (Mi funs X (n + 18) d) rdTest rdBody q [some (.str t), some (.ref k), some (.str bare), some (.str rd0), some (.int (i : Int)), x5, x6, x7] h = match rd (es.map (·.1)) sg bare f (t.drop i) with
      | some l => some (.next, some (.str t) :: some (.ref k) :: some (.str bare) :: some (.str (rd0 ++ l)) :: m', h)
      | none => some (.ret .none, m', h)
  | 0, _, _, _, _, _, _, _, hq, _, _ => by omega
  | q + 1, f, i, rd0, x5, x6, x7, hi, hq, hf, hr => by
    have test : (Mi funs X (n + 18) d).ev rdTest [some (.str t), some (.ref k), some (.str bare), some (.str rd0), some (.int (i : Int)), x5, x6, x7] h = some (.bool (decide (i < t.length)), h) := by
      show (Mi funs X (n + 18) d).ev (.cmp .Lt (.loc 4 _) (.bcall .len _ (.cons (.loc 0 _) .nil) _) _) _ _ = _
      simp only [Mi_ev, stepE, evs, evO, Option.bind_some, Option.map_some, List.getD_cons_zero, List.getD_cons_succ, List.set_cons_zero, List.set_cons_succ, C0.val, binop, cmpop, truth, bcall, meth, if_true, if_false, Bool.false_eq_true]
      rw [show decide ((i : Int) < (t.length : Int)) = decide (i < t.length) from by rw [decide_eq_decide]; omega]
    by_cases hlt : i < t.length
    · have hd : t.drop i = t[i] :: t.drop (i + 1) := List.drop_eq_getElem_cons hlt
      generalize t[i] = c at hd
      generalize t.drop (i + 1) = r at hd
      obtain ⟨f, rfl⟩ : ∃ g, f = g + 1 := ⟨f - 1, by omega⟩
      obtain ⟨y, hb⟩ := rd_head (X := X) (n := n) (d := d) (bare := bare) (rd0 := rd0) (x5 := x5) (x6 := x6) (x7 := x7) ho hk hd
      rw [decide_eq_true hlt] at test
      rw [hd, rd]
      have hrl : (c :: r).length = t.length - i := by rw [← hd, List.length_drop]
      by_cases hz : (rstep (es.map (·.1)) sg bare (c :: r)).2 = 0
      · rw [if_pos hz]
        rw [hz] at hb
        obtain ⟨m', e⟩ := rd_tail0 (X := X) (n := n + 10) (d := d) (h := h) (a0 := some (.str t)) (a1 := some (.ref k)) (a2 := some (.str bare)) (a3 := some (.str rd0)) (a4 := some (.int (i : Int))) (a5 := some (.str (rstep (es.map (·.1)) sg bare (c :: r)).1)) (a7 := y)
        exact ⟨m', W_ret test rfl (hb.trans e)⟩
      · rw [if_neg hz]
        obtain ⟨h1, h2⟩ := rstep_len (bare := bare) hl hz
        rw [hrl] at h2
        have e := rd_tail1 (X := X) (n := n + 10) (d := d) (h := h) (a0 := some (.str t)) (a1 := some (.ref k)) (a2 := some (.str bare)) (a7 := y) (i := i) (r := rd0) (s := (rstep (es.map (·.1)) sg bare (c :: r)).1) hz (by unfold LIM; omega)
        obtain ⟨m', ih⟩ := rd_while ho hk hl ht q f (i + (rstep (es.map (·.1)) sg bare (c :: r)).2) (rd0 ++ (rstep (es.map (·.1)) sg bare (c :: r)).1) (some (.str (rstep (es.map (·.1)) sg bare (c :: r)).1)) (some (.int (((rstep (es.map (·.1)) sg bare (c :: r)).2 : Nat) : Int))) y (by omega) (by omega) (by omega) (by rw [List.length_append]; omega)
        refine ⟨m', (W_turn test rfl (hb.trans e)).trans (ih.trans ?_)⟩
        rw [← List.drop_drop, hd]
        cases rd (es.map (·.1)) sg bare f ((c :: r).drop (rstep (es.map (·.1)) sg bare (c :: r)).2) with
        | none => rfl
        | some l => simp
    · rw [decide_eq_false hlt] at test
      have : i = t.length := by omega
      subst this
      refine ⟨[some (.int (t.length : Int)), x5, x6, x7], (W_stop test rfl).trans ?_⟩
      rw [List.drop_length]
      cases f <;> simp [rd]

/-- what the law's reader gives back -/
noncomputable def readV : Option (List Nat) → V
  | some l => .str l
  | none => .none
theorem r_read (hn : 3010 ≤ n) (ho : h[k]? = some (.dict rep ep es)) (hk : ∀ e ∈ es, keyIn e.1 es = some (.str (sg e.1))) (hl : ∀ e ∈ es, (sg e.1).length = 1) (ht : t.length ≤ 3000) :
    (Mi funs X (n + 30) (d + 1)).cl 5 [.str t, .ref k, .str bare] h = some (readV (rdA (es.map (·.1)) sg bare t), h) := by
  refine cl_is (n := n + 29) f_5 rfl ?_
  show RetX X (n + 29) d b_law_read [some (.str t), some (.ref k), some (.str bare), none, none, none, none, none] h _ _
  refine R_asg2 (n := n + 28) (h1 := h) (h2 := h) (u := .str []) (v := .int 0) rfl rfl ?_
  obtain ⟨m', e⟩ := rd_while (X := X) (n := n + 9) (d := d) (bare := bare) ho hk hl ht (n + 26) t.length 0 [] none none none (Nat.zero_le _) (by omega) (by omega) (Nat.le_refl _)
  show RetX X (n + 28) d (.cons (.while rdTest rdBody _) (.cons (.ret (.loc 3 _) _) .nil)) [some (.str t), some (.ref k), some (.str bare), some (.str []), some (.int ((0 : Nat) : Int)), none, none, none] h _ _
  unfold rdA
  cases hh : rd (es.map (·.1)) sg bare t.length t with
  | none =>
    rw [List.drop_zero, hh] at e
    exact R_stop (n := n + 27) e
  | some l =>
    rw [List.drop_zero, hh] at e
    exact R_next (n := n + 27) e (R_ret (n := n + 26) rfl)
end
end Mine

end

section
open PySem
namespace Mine

noncomputable def evry : List V := ["a", "&", "<", ">", "\"", "'", "\n", "\r", "\t", "&amp;", "&lt;", "\"", "&gt;", "&quot;", "&#10;", "&#13;", "&#9;", ";", "amp;", "quot;", "#9;", "&#9"].map fun s => V.str (lit s)
noncomputable def gd : List V := ["a", "&amp;", "&lt;", "&gt;", "b", ";", "amp;", "'", "&quot;", "&#10;", "&#13;", "&#9;", "lt;", " "].map fun s => V.str (lit s)
noncomputable def pcFor : MSs := match b_law_pieces with | .cons _ (.cons _ (.cons _ (.cons (.for1 _ _ _ b _) _))) => b | _ => .nil
noncomputable def shortT (v : V) : Bool := match v with | .str l => decide (l.length ≤ 6) | _ => false

section
variable {X : Hp} {n d : Nat} {h : Hp}
theorem idx_short {a : Nat} {vs : List V} (ho : h[a]? = some (.list vs)) (hv : vs.all shortT = true) {i : Int} (h0 : 0 ≤ i) (h1 : i < vs.length) : ∃ w, w.length ≤ 6 ∧ idxv X h (.ref a) (.int i) = some (.str w) := by
  have hlt : i.toNat < vs.length := by omega
  have hm := List.all_eq_true.mp hv vs[i.toNat] (List.getElem_mem hlt)
  have e : idxv X h (.ref a) (.int i) = some vs[i.toNat] := by
    show (match h[a]? with | some (.list vs) => (nidx i vs.length).bind fun j => vs[j]? | some (.tup vs) => (nidx i vs.length).bind fun j => vs[j]? | _ => Option.none) = _
    rw [ho]
    show (nidx i vs.length).bind (fun j => vs[j]?) = _
    unfold nidx
    rw [if_pos h0, if_pos hlt, Option.bind_some, List.getElem?_eq_getElem hlt]
  rw [e]
  generalize vs[i.toNat] = v at hm
  unfold shortT at hm
  split at hm
  · exact ⟨_, of_decide_eq_true hm, rfl⟩
  · cases hm

theorem pc_for {a b : Nat} (h1 : h[a]? = some (.list evry)) (h2 : h[b]? = some (.list gd)) {a0 : Option V} : ∀ (xs : List Int) (t : List Nat) (x k : Option V), t.length + 6 * xs.length ≤ 1000 →
    ∃ t' x' k', mfor (Mi funs X (n + 12) d) (fun _ => true) 4 pcFor (xs.map fun i => V.int i) [a0, some (.ref a), some (.ref b), some (.str t), x, k] h = some (.next, [a0, some (.ref a), some (.ref b), some (.str t'), x', k'], h) ∧ t'.length ≤ t.length + 6 * xs.length
  | [], t, x, k, _ => ⟨t, x, k, F_nil rfl, by simp⟩
  | i :: xs, t, x, k, hl => by
    have hl' : t.length + 6 * (xs.length + 1) ≤ 1000 := hl
    have e1 : 0 ≤ Int.fmod (Int.fmod (i.natAbs : Int) 64) 14 ∧ Int.fmod (Int.fmod (i.natAbs : Int) 64) 14 < 14 := ⟨Int.fmod_nonneg_of_pos _ (by decide), Int.fmod_lt_of_pos _ (by decide)⟩
    have e2 : 0 ≤ Int.fmod (Int.fmod (i.natAbs : Int) 64) 22 ∧ Int.fmod (Int.fmod (i.natAbs : Int) 64) 22 < 22 := ⟨Int.fmod_nonneg_of_pos _ (by decide), Int.fmod_lt_of_pos _ (by decide)⟩
    obtain ⟨w1, l1, q1⟩ := idx_short (X := X) h2 (by decide) e1.1 e1.2
    obtain ⟨w2, l2, q2⟩ := idx_short (X := X) h1 (by decide) e2.1 e2.2
    have step : ∃ w, w.length ≤ 6 ∧ (Mi funs X (n + 12) d).ex pcFor [a0, some (.ref a), some (.ref b), some (.str t), some (.int i), k] h = some (.next, [a0, some (.ref a), some (.ref b), some (.str (t ++ w)), some (.int i), some (.int (i.natAbs : Int))], h) := by
      have hk : (Mi funs X (n + 11) d).ev (.bcall .abs ⟨0, 0, 0, 0⟩ (.cons (.loc 4 ⟨0, 0, 0, 0⟩) .nil) ⟨0, 0, 0, 0⟩) [a0, some (.ref a), some (.ref b), some (.str t), some (.int i), k] h = some (.int (i.natAbs : Int), h) := rfl
      by_cases hc : 0 < Int.fmod (Int.fdiv (i.natAbs : Int) 64) 4
      · refine ⟨w1, l1, (X_next (n := n + 11) (S_asg (v := .int (i.natAbs : Int)) (h1 := h) rfl)).trans ?_⟩
        refine (X_next (n := n + 10) (m1 := [a0, some (.ref a), some (.ref b), some (.str (t ++ w1)), some (.int i), some (.int (i.natAbs : Int))]) (h1 := h) ?_).trans X_nil
        refine (S_yes (v := .bool true) (h1 := h) ?_ rfl).trans ((X_next (n := n + 9) (S_asg (v := .str (t ++ w1)) (h1 := h) ?_)).trans X_nil)
        · simp only [Mi_ev, stepE, evs, evO, Option.bind_some, Option.map_some, List.getD_cons_zero, List.getD_cons_succ, List.set_cons_zero, List.set_cons_succ, C0.val, binop, cmpop, truth, bcall, meth, if_true, if_false, Bool.false_eq_true]
          rw [if_neg (by decide), if_pos (by decide)]
          simp only [Mi_ev, stepE, evs, evO, Option.bind_some, Option.map_some, List.getD_cons_zero, List.getD_cons_succ, List.set_cons_zero, List.set_cons_succ, C0.val, binop, cmpop, truth, bcall, meth, if_true, if_false, Bool.false_eq_true]
          rw [if_neg (by decide)]
          simp only [Mi_ev, stepE, evs, evO, Option.bind_some, Option.map_some, List.getD_cons_zero, List.getD_cons_succ, List.set_cons_zero, List.set_cons_succ, C0.val, binop, cmpop, truth, bcall, meth, if_true, if_false, Bool.false_eq_true]
          rw [decide_eq_true hc]
        · simp only [Mi_ev, stepE, evs, evO, Option.bind_some, Option.map_some, List.getD_cons_zero, List.getD_cons_succ, List.set_cons_zero, List.set_cons_succ, C0.val, binop, cmpop, truth, bcall, meth, if_true, if_false, Bool.false_eq_true]
          rw [if_neg (by decide)]
          simp only [Mi_ev, stepE, evs, evO, Option.bind_some, Option.map_some, List.getD_cons_zero, List.getD_cons_succ, List.set_cons_zero, List.set_cons_succ, C0.val, binop, cmpop, truth, bcall, meth, if_true, if_false, Bool.false_eq_true]
          rw [if_neg (by decide)]
          simp only [Mi_ev, stepE, evs, evO, Option.bind_some, Option.map_some, List.getD_cons_zero, List.getD_cons_succ, List.set_cons_zero, List.set_cons_succ, C0.val, binop, cmpop, truth, bcall, meth, if_true, if_false, Bool.false_eq_true]
          rw [q1]
          simp only [Mi_ev, stepE, evs, evO, Option.bind_some, Option.map_some, List.getD_cons_zero, List.getD_cons_succ, List.set_cons_zero, List.set_cons_succ, C0.val, binop, cmpop, truth, bcall, meth, if_true, if_false, Bool.false_eq_true]
          rw [if_pos (by unfold LIM; omega)]
          rfl
      · refine ⟨w2, l2, (X_next (n := n + 11) (S_asg (v := .int (i.natAbs : Int)) (h1 := h) rfl)).trans ?_⟩
        refine (X_next (n := n + 10) (m1 := [a0, some (.ref a), some (.ref b), some (.str (t ++ w2)), some (.int i), some (.int (i.natAbs : Int))]) (h1 := h) ?_).trans X_nil
        refine (S_no (v := .bool false) (h1 := h) ?_ rfl).trans ((X_next (n := n + 9) (S_asg (v := .str (t ++ w2)) (h1 := h) ?_)).trans X_nil)
        · simp only [Mi_ev, stepE, evs, evO, Option.bind_some, Option.map_some, List.getD_cons_zero, List.getD_cons_succ, List.set_cons_zero, List.set_cons_succ, C0.val, binop, cmpop, truth, bcall, meth, if_true, if_false, Bool.false_eq_true]
          rw [if_neg (by decide), if_pos (by decide)]
          simp only [Mi_ev, stepE, evs, evO, Option.bind_some, Option.map_some, List.getD_cons_zero, List.getD_cons_succ, List.set_cons_zero, List.set_cons_succ, C0.val, binop, cmpop, truth, bcall, meth, if_true, if_false, Bool.false_eq_true]
          rw [if_neg (by decide)]
          simp only [Mi_ev, stepE, evs, evO, Option.bind_some, Option.map_some, List.getD_cons_zero, List.getD_cons_succ, List.set_cons_zero, List.set_cons_succ, C0.val, binop, cmpop, truth, bcall, meth, if_true, if_false, Bool.false_eq_true]
          rw [decide_eq_false hc]
        · simp only [Mi_ev, stepE, evs, evO, Option.bind_some, Option.map_some, List.getD_cons_zero, List.getD_cons_succ, List.set_cons_zero, List.set_cons_succ, C0.val, binop, cmpop, truth, bcall, meth, if_true, if_false, Bool.false_eq_true]
          rw [if_neg (by decide)]
          simp only [Mi_ev, stepE, evs, evO, Option.bind_some, Option.map_some, List.getD_cons_zero, List.getD_cons_succ, List.set_cons_zero, List.set_cons_succ, C0.val, binop, cmpop, truth, bcall, meth, if_true, if_false, Bool.false_eq_true]
          rw [if_neg (by decide)]
          simp only [Mi_ev, stepE, evs, evO, Option.bind_some, Option.map_some, List.getD_cons_zero, List.getD_cons_succ, List.set_cons_zero, List.set_cons_succ, C0.val, binop, cmpop, truth, bcall, meth, if_true, if_false, Bool.false_eq_true]
          rw [q2]
          simp only [Mi_ev, stepE, evs, evO, Option.bind_some, Option.map_some, List.getD_cons_zero, List.getD_cons_succ, List.set_cons_zero, List.set_cons_succ, C0.val, binop, cmpop, truth, bcall, meth, if_true, if_false, Bool.false_eq_true]
          rw [if_pos (by unfold LIM; omega)]
          rfl
    obtain ⟨w, hw, hs⟩ := step
    obtain ⟨t', x', k', ih, hlen⟩ := pc_for h1 h2 (a0 := a0) xs (t ++ w) (some (.int i)) (some (.int (i.natAbs : Int))) (by rw [List.length_append]; omega)
    refine ⟨t', x', k', (F_turn rfl hs).trans ih, ?_⟩
    rw [List.length_append] at hlen
    rw [List.length_cons]
    omega

theorem r_pieces {xs : List Int} (hX : X[0]? = some (.list (xs.map fun i => V.int i))) (hx : xs.length ≤ 63) : ∃ t, t.length ≤ 378 ∧ (Mi funs X (n + 40) (d + 1)).cl 4 [.ext 0] h = some (.str t, h ++ [.list evry, .list gd]) := by
  have k1 : (h ++ [O.list evry, O.list gd])[h.length]? = some (.list evry) := by simp
  have k2 : (h ++ [O.list evry, O.list gd])[h.length + 1]? = some (.list gd) := by simp
  obtain ⟨t, x', k', e, hl⟩ := pc_for (X := X) (n := n + 23) (d := d) (a0 := some (.ext 0)) k1 k2 xs [] none none (by simp; omega)
  refine ⟨t, by simp at hl; omega, cl_is (n := n + 39) f_4 rfl ?_⟩
  show RetX X (n + 39) d b_law_pieces [some (.ext 0), none, none, none, none, none] h _ _
  refine R_asg (n := n + 38) (u := .ref h.length) (h1 := h ++ [.list evry]) rfl ?_
  refine R_asg (n := n + 37) (u := .ref (h.length + 1)) (h1 := h ++ [.list evry, .list gd]) ?_ ?_
  · have : (Mi funs X (n + 37) d).ev (.list (match b_law_pieces with | .cons _ (.cons (.asg _ _ (.list es _) _) _) => es | _ => .nil) ⟨0, 0, 0, 0⟩) ([some (V.ext 0), none, none, none, none, none].set 1 (some (.ref h.length))) (h ++ [.list evry]) = some (.ref (h ++ [O.list evry]).length, (h ++ [.list evry]) ++ [.list gd]) := rfl
    rw [List.length_append, List.append_assoc] at this
    exact this
  refine R_asg (n := n + 36) (u := .str []) (h1 := h ++ [.list evry, .list gd]) rfl ?_
  show RetX X (n + 36) d (.cons (.for1 4 _ (.loc 0 _) pcFor _) (.cons (.ret (.loc 3 _) _) .nil)) [some (.ext 0), some (.ref h.length), some (.ref (h.length + 1)), some (.str []), none, none] (h ++ [.list evry, .list gd]) _ _
  refine R_next (n := n + 35) (m1 := [some (.ext 0), some (.ref h.length), some (.ref (h.length + 1)), some (.str t), x', k']) (h1 := h ++ [.list evry, .list gd]) ((S_for (vs := xs.map fun i => V.int i) (chk := fun _ => true) (h1 := h ++ [.list evry, .list gd]) ?_).trans e) (R_ret (n := n + 34) rfl)
  show (match X[0]? with | some (.list vs) => some (vs, fun (_ : Hp) => true, h ++ [O.list evry, O.list gd]) | _ => Option.none) = _
  rw [hX]
end
end Mine

end

section
open PySem
namespace Mine

noncomputable def ents (ns : List (List Nat)) : List (List Nat × V) := ns.map fun w => (w, V.str (sg w))
theorem ents_keys (ns : List (List Nat)) : (ents ns).map (·.1) = ns := by
  unfold ents
  rw [List.map_map]
  exact List.map_id ns
theorem ents_ok {ns : List (List Nat)} (h : ns.all (fun w => decide (keyIn w (ents ns) = some (.str (sg w)) ∧ (sg w).length = 1)) = true) : (∀ e ∈ ents ns, keyIn e.1 (ents ns) = some (.str (sg e.1))) ∧ ∀ e ∈ ents ns, (sg e.1).length = 1 := by
  have key : ∀ e ∈ ents ns, keyIn e.1 (ents ns) = some (.str (sg e.1)) ∧ (sg e.1).length = 1 := by
    intro e he
    obtain ⟨w, hw, rfl⟩ := List.mem_map.mp he
    exact of_decide_eq_true (List.all_eq_true.mp h w hw)
  exact ⟨fun e he => (key e he).1, fun e he => (key e he).2⟩

noncomputable def qB1 : MSs := match b_law_quoted with | .cons _ r => r | _ => .nil
noncomputable def qB2 : MSs := match qB1 with | .cons _ r => r | _ => .nil
noncomputable def qB3 : MSs := match qB2 with | .cons _ r => r | _ => .nil
noncomputable def qB4 : MSs := match qB3 with | .cons _ r => r | _ => .nil
section
variable {X : Hp} {n d : Nat} {h h' : Hp} {t : List Nat} {v : V}
/-- the reader by a table of known words -/
theorem r_read' (hn0 : 3010 ≤ n) {ns : List (List Nat)} {k ep : Nat} {rep : Bool} {bare : List Nat} (hn : ns.all (fun w => decide (keyIn w (ents ns) = some (.str (sg w)) ∧ (sg w).length = 1)) = true) (ho : h[k]? = some (.dict rep ep (ents ns))) (ht : t.length ≤ 3000) :
    (Mi funs X (n + 30) (d + 1)).cl 5 [.str t, .ref k, .str bare] h = some (readV (rdA ns sg bare t), h) := by
  obtain ⟨h1, h2⟩ := ents_ok hn
  have := r_read (X := X) (n := n) (d := d) (bare := bare) hn0 ho h1 h2 ht
  rw [ents_keys] at this
  exact this

theorem put_quot {ep : Nat} {ns : List (List Nat)} (hl : (ents ns).length < 100) (hp : putE (lit "&quot;") (.str (lit "\"")) (ents ns) = ents (ns ++ [lit "&quot;"])) {k i : Nat} {p1 p2 p3 p4 p5 : Pos} {m : M} (hm : m.getD i none = some (.ref k)) (ho : h[k]? = some (.dict true ep (ents ns))) :
    ∃ ep', stepS X (Mi funs X (n + 3) d) (.sets (.loc i p1) (.cst (.str "&quot;") p2) p3 (.cst (.str "\"") p4) p5) m h = some (.next, m, h.set k (.dict true ep' (ents (ns ++ [lit "&quot;"])))) := by
  refine ⟨ep + epAll (ents ns) [(lit "&quot;", .str (lit "\""))], ?_⟩
  rw [stepS]
  simp only [Mi_ev, stepE, evs, evO, Option.bind_some, Option.map_some, List.getD_cons_zero, List.getD_cons_succ, List.set_cons_zero, List.set_cons_succ, C0.val, binop, cmpop, truth, bcall, meth, if_true, if_false, Bool.false_eq_true]
  rw [hm]
  simp only [Mi_ev, stepE, evs, evO, Option.bind_some, Option.map_some, List.getD_cons_zero, List.getD_cons_succ, List.set_cons_zero, List.set_cons_succ, C0.val, binop, cmpop, truth, bcall, meth, if_true, if_false, Bool.false_eq_true]
  rw [ho]
  show (if LIM ≤ (ents ns).length then Option.none else some (Fl.next, m, h.set k (.dict _ _ (putE (lit "&quot;") (.str (lit "\"")) (ents ns))))) = _
  rw [if_neg (by unfold LIM; omega), hp]
  rfl

theorem set_last (h : Hp) (a b : O) : (h ++ [a]).set h.length b = h ++ [b] := by simp
theorem get_last (h : Hp) (a : O) : (h ++ [a])[h.length]? = some a := by simp
theorem idx_first {a : Nat} {r : List Nat} : idxv X h (.str (a :: r)) (.int 0) = some (.str [a]) := rfl
theorem idx_last {a b : Nat} {m : List Nat} : idxv X h (.str (a :: (m ++ [b]))) (.int (-1)) = some (.str [b]) := by
  show Option.map _ ((nidx (-1) (a :: (m ++ [b])).length).bind fun j => (a :: (m ++ [b]))[j]?) = _
  unfold nidx
  rw [if_neg (by decide), if_pos (by simp; omega)]
  rw [Option.bind_some, show ((-1 : Int) + ((a :: (m ++ [b])).length : Nat)).toNat = m.length + 1 by simp; omega]
  simp

theorem q_dict : RetX X (n + 68) (d + 1) qB1 [some (.str t), some (.ref h.length), none] (h ++ [.dict true 6 (ents names6)]) v h' → RetX X (n + 69) (d + 1) b_law_quoted [some (.str t), none, none] h v h' := by
  intro k
  refine R_asg (n := n + 68) (u := .ref h.length) (h1 := h ++ [O.dict true 6 (ents names6)]) ?_ ?_
  · rfl
  · show RetX X (n + 68) (d + 1) qB1 [some (.str t), some (.ref h.length), none] (h ++ [O.dict true 6 (ents names6)]) v h'
    exact k
theorem q_short (h2 : t.length < 2) {m1 m2 : Option V} : RetX X (n + 68) (d + 1) qB1 [some (.str t), m1, m2] h .none h := by
  refine R_yesR (n := n + 67) (u := .bool true) (h1 := h) ?_ rfl (R_ret (n := n + 66) rfl)
  simp only [Mi_ev, stepE, evs, evO, Option.bind_some, Option.map_some, List.getD_cons_zero, List.getD_cons_succ, List.set_cons_zero, List.set_cons_succ, C0.val, binop, cmpop, truth, bcall, meth, if_true, if_false, Bool.false_eq_true]
  rw [decide_eq_true (by omega : (t.length : Int) < 2)]
  rfl
theorem q_ends {a b : Nat} {m : List Nat} {m1 m2 : Option V} : (a ≠ b → RetX X (n + 68) (d + 1) qB1 [some (.str (a :: (m ++ [b]))), m1, m2] h .none h) ∧
    (a = b → RetX X (n + 67) (d + 1) qB2 [some (.str (a :: (m ++ [b]))), m1, m2] h v h' → RetX X (n + 68) (d + 1) qB1 [some (.str (a :: (m ++ [b]))), m1, m2] h v h') := by
  have c : ¬ (((a :: (m ++ [b])).length : Nat) : Int) < 2 := by simp; omega
  constructor
  · intro hab
    refine R_yesR (n := n + 67) (u := .bool true) (h1 := h) ?_ rfl (R_ret (n := n + 66) rfl)
    simp only [Mi_ev, stepE, evs, evO, Option.bind_some, Option.map_some, List.getD_cons_zero, List.getD_cons_succ, List.set_cons_zero, List.set_cons_succ, C0.val, binop, cmpop, truth, bcall, meth, if_true, if_false, Bool.false_eq_true]
    rw [decide_eq_false c]
    simp only [Mi_ev, stepE, evs, evO, Option.bind_some, Option.map_some, List.getD_cons_zero, List.getD_cons_succ, List.set_cons_zero, List.set_cons_succ, C0.val, binop, cmpop, truth, bcall, meth, if_true, if_false, Bool.false_eq_true, idx_first, idx_last]
    rw [decide_eq_false (by simpa using hab)]
    rfl
  · intro hab k
    refine R_no (n := n + 67) (u := .bool false) (h1 := h) ?_ rfl T_nil k
    simp only [Mi_ev, stepE, evs, evO, Option.bind_some, Option.map_some, List.getD_cons_zero, List.getD_cons_succ, List.set_cons_zero, List.set_cons_succ, C0.val, binop, cmpop, truth, bcall, meth, if_true, if_false, Bool.false_eq_true]
    rw [decide_eq_false c]
    simp only [Mi_ev, stepE, evs, evO, Option.bind_some, Option.map_some, List.getD_cons_zero, List.getD_cons_succ, List.set_cons_zero, List.set_cons_succ, C0.val, binop, cmpop, truth, bcall, meth, if_true, if_false, Bool.false_eq_true, idx_first, idx_last]
    rw [decide_eq_true (by simpa using hab)]
    rfl
theorem q_apos (hn0 : 3010 ≤ n) {a : Nat} {m : List Nat} {k ep : Nat} {rep : Bool} (hg : h[k]? = some (.dict rep ep (ents names6))) (hml : m.length ≤ 3000) :
    (a = 39 → RetX X (n + 67) (d + 1) qB2 [some (.str (a :: (m ++ [a]))), some (.ref k), none] h (readV ((rdA names6 sg bare6 m).bind fun r => if 34 ∈ r then some r else none)) h) ∧
    (a ≠ 39 → RetX X (n + 66) (d + 1) qB3 [some (.str (a :: (m ++ [a]))), some (.ref k), none] h v h' → RetX X (n + 67) (d + 1) qB2 [some (.str (a :: (m ++ [a]))), some (.ref k), none] h v h') := by
  constructor
  · rintro rfl
    refine R_yesR (n := n + 66) (u := .bool true) (h1 := h) rfl rfl ?_
    refine R_asg (n := n + 65) (u := readV (rdA names6 sg bare6 m)) (h1 := h) ?_ (R_ret (n := n + 64) ?_)
    · simp only [Mi_ev, stepE, evs, evO, Option.bind_some, Option.map_some, List.getD_cons_zero, List.getD_cons_succ, List.set_cons_zero, List.set_cons_succ, C0.val, binop, cmpop, truth, bcall, meth, if_true, if_false, Bool.false_eq_true]
      rw [show slc (39 :: (m ++ [39])) (some 1) (some (-1)) = m from inner_mid 39 39 m]
      exact r_read' (n := n + 34) (d := d) (by omega) (ns := names6) (bare := bare6) (by decide) hg hml
    · cases rdA names6 sg bare6 m with
      | none => rfl
      | some r =>
        have s34 : inStr (lit "\"") r = decide (34 ∈ r) := inStr_one r
        rw [Option.bind_some]
        by_cases h34 : 34 ∈ r
        · rw [if_pos h34]
          simp only [Mi_ev, stepE, evs, evO, Option.bind_some, Option.map_some, List.getD_cons_zero, List.getD_cons_succ, List.set_cons_zero, List.set_cons_succ, C0.val, binop, cmpop, truth, bcall, meth, if_true, if_false, Bool.false_eq_true, readV, s34, decide_eq_true h34, Bool.not_true, Bool.not_false]
        · rw [if_neg h34]
          simp only [Mi_ev, stepE, evs, evO, Option.bind_some, Option.map_some, List.getD_cons_zero, List.getD_cons_succ, List.set_cons_zero, List.set_cons_succ, C0.val, binop, cmpop, truth, bcall, meth, if_true, if_false, Bool.false_eq_true, readV, s34, decide_eq_false h34, Bool.not_true, Bool.not_false]
  · intro ha k
    refine R_no (n := n + 66) (u := .bool false) (h1 := h) ?_ rfl T_nil k
    simp only [Mi_ev, stepE, evs, evO, Option.bind_some, Option.map_some, List.getD_cons_zero, List.getD_cons_succ, List.set_cons_zero, List.set_cons_succ, C0.val, binop, cmpop, truth, bcall, meth, if_true, if_false, Bool.false_eq_true, idx_first]
    rw [show lit "'" = [39] from rfl, decide_eq_false (by simpa using ha)]
theorem q_quot {a : Nat} {m : List Nat} {m1 m2 : Option V} : (a ≠ 34 → RetX X (n + 66) (d + 1) qB3 [some (.str (a :: (m ++ [a]))), m1, m2] h .none h) ∧
    (a = 34 → RetX X (n + 65) (d + 1) qB4 [some (.str (a :: (m ++ [a]))), m1, m2] h v h' → RetX X (n + 66) (d + 1) qB3 [some (.str (a :: (m ++ [a]))), m1, m2] h v h') := by
  constructor
  · intro ha
    refine R_yesR (n := n + 65) (u := .bool true) (h1 := h) ?_ rfl (R_ret (n := n + 64) rfl)
    simp only [Mi_ev, stepE, evs, evO, Option.bind_some, Option.map_some, List.getD_cons_zero, List.getD_cons_succ, List.set_cons_zero, List.set_cons_succ, C0.val, binop, cmpop, truth, bcall, meth, if_true, if_false, Bool.false_eq_true, idx_first]
    rw [show lit "\"" = [34] from rfl, decide_eq_false (by simpa using ha)]
    rfl
  · rintro rfl k
    exact R_no (n := n + 65) (u := .bool false) (h1 := h) rfl rfl T_nil k
theorem q_last (hn0 : 3010 ≤ n) {m : List Nat} {ep : Nat} (hml : m.length ≤ 3000) : ∃ ep', RetX X (n + 65) (d + 1) qB4 [some (.str (34 :: (m ++ [34]))), some (.ref h.length), none] (h ++ [.dict true ep (ents names6)]) (readV ((rdA names7 sg bare7 m).bind fun r => if 34 ∈ r ∧ 39 ∉ r then none else some r)) (h ++ [.dict true ep' (ents names7)]) := by
  obtain ⟨ep', hs⟩ := put_quot (X := X) (n := n + 61) (d := d + 1) (ep := ep) (ns := names6) (h := h ++ [.dict true ep (ents names6)]) (k := h.length) (i := 1) (p1 := ⟨66, 4, 66, 9⟩) (p2 := ⟨66, 10, 66, 18⟩) (p3 := ⟨66, 4, 66, 19⟩) (p4 := ⟨66, 22, 66, 25⟩) (p5 := ⟨66, 4, 66, 25⟩) (m := [some (.str (34 :: (m ++ [34]))), some (.ref h.length), none]) (by decide) (by decide) rfl (get_last h _)
  rw [set_last] at hs
  have hg7 := get_last h (.dict true ep' (ents names7))
  refine ⟨ep', ?_⟩
  refine R_next (n := n + 64) (h1 := h ++ [.dict true ep' (ents names7)]) hs ?_
  refine R_asg (n := n + 63) (u := readV (rdA names7 sg bare7 m)) (h1 := h ++ [.dict true ep' (ents names7)]) ?_ (R_ret (n := n + 62) ?_)
  · simp only [Mi_ev, stepE, evs, evO, Option.bind_some, Option.map_some, List.getD_cons_zero, List.getD_cons_succ, List.set_cons_zero, List.set_cons_succ, C0.val, binop, cmpop, truth, bcall, meth, if_true, if_false, Bool.false_eq_true]
    rw [show slc (34 :: (m ++ [34])) (some 1) (some (-1)) = m from inner_mid 34 34 m]
    exact r_read' (n := n + 32) (d := d) (by omega) (ns := names7) (bare := bare7) (by decide) hg7 hml
  · cases rdA names7 sg bare7 m with
    | none => rfl
    | some r =>
      have s34 : inStr (lit "\"") r = decide (34 ∈ r) := inStr_one r
      have s39 : inStr (lit "'") r = decide (39 ∈ r) := inStr_one r
      rw [Option.bind_some]
      by_cases h34 : 34 ∈ r
      · by_cases h39 : 39 ∈ r
        · rw [if_neg (fun q => q.2 h39)]
          simp only [Mi_ev, stepE, evs, evO, Option.bind_some, Option.map_some, List.getD_cons_zero, List.getD_cons_succ, List.set_cons_zero, List.set_cons_succ, C0.val, binop, cmpop, truth, bcall, meth, if_true, if_false, Bool.false_eq_true, readV, s34, s39, decide_eq_true h34, decide_eq_true h39, Bool.not_true, Bool.not_false]
        · rw [if_pos ⟨h34, h39⟩]
          simp only [Mi_ev, stepE, evs, evO, Option.bind_some, Option.map_some, List.getD_cons_zero, List.getD_cons_succ, List.set_cons_zero, List.set_cons_succ, C0.val, binop, cmpop, truth, bcall, meth, if_true, if_false, Bool.false_eq_true, readV, s34, s39, decide_eq_true h34, decide_eq_false h39, Bool.not_true, Bool.not_false]
      · rw [if_neg (fun q => h34 q.1)]
        simp only [Mi_ev, stepE, evs, evO, Option.bind_some, Option.map_some, List.getD_cons_zero, List.getD_cons_succ, List.set_cons_zero, List.set_cons_succ, C0.val, binop, cmpop, truth, bcall, meth, if_true, if_false, Bool.false_eq_true, readV, s34, decide_eq_false h34, Bool.not_true, Bool.not_false]
theorem r_quoted (hn0 : 3010 ≤ n) (ht : t.length ≤ 3000) : ∃ j, (Mi funs X (n + 70) (d + 2)).cl 6 [.str t] h = some (readV (D3 t), h ++ j) := by
  have hg := get_last h (.dict true 6 (ents names6))
  have go : ∀ {j : Hp} {v : V}, RetX X (n + 68) (d + 1) qB1 [some (.str t), some (.ref h.length), none] (h ++ [.dict true 6 (ents names6)]) v (h ++ j) → v = readV (D3 t) → (Mi funs X (n + 70) (d + 2)).cl 6 [.str t] h = some (readV (D3 t), h ++ j) :=
    fun e q => cl_is (n := n + 69) f_6 rfl (q ▸ q_dict e)
  by_cases h2 : t.length < 2
  · exact ⟨_, go (q_short h2) (by unfold D3; rw [if_pos (.inl h2)]; rfl)⟩
  · obtain ⟨a, m, b, rfl⟩ := two_ends h2
    have hml : m.length ≤ 3000 := by simp at ht; omega
    rw [D3_at] at go ⊢
    by_cases hab : a = b
    · subst hab
      rw [if_neg (by simp)] at go ⊢
      by_cases h39 : a = 39
      · rw [if_pos h39] at go ⊢
        exact ⟨_, go (q_ends.2 rfl ((q_apos (v := .none) (h' := h) hn0 hg hml).1 h39)) rfl⟩
      · rw [if_neg h39] at go ⊢
        by_cases h34 : a = 34
        · subst h34
          rw [if_neg (by simp)] at go ⊢
          obtain ⟨ep', e⟩ := q_last (X := X) (n := n) (d := d) (h := h) (m := m) (ep := 6) hn0 hml
          exact ⟨_, go (q_ends.2 rfl ((q_apos hn0 hg hml).2 h39 (q_quot.2 rfl e))) rfl⟩
        · rw [if_pos h34] at go ⊢
          exact ⟨_, go (q_ends.2 rfl ((q_apos hn0 hg hml).2 h39 ((q_quot (v := .none) (h' := h)).1 h34))) rfl⟩
    · rw [if_pos hab] at go ⊢
      exact ⟨_, go ((q_ends (v := .none) (h' := h)).1 hab) rfl⟩
end
end Mine

end

section
open PySem
namespace Mine

/-- a def that writes by W -/
noncomputable def Writes (X : Hp) (g : Nat) (W : List Nat → List Nat) : Prop := ∀ (n d : Nat) (l : List Nat) (h : Hp), l.length ≤ 3000 → ∃ j, (Mi funs X (n + 40) (d + 3)).cl g [.str l] h = some (.str (W l), h ++ j)

noncomputable def asFor : MSs := match b_law_asked with | .cons _ (.cons _ (.cons (.for1 _ _ _ b _) _)) => b | _ => .nil
noncomputable def asB1 : MSs := match b_law_asked with | .cons _ r => r | _ => .nil
noncomputable def asB2 : MSs := match asB1 with | .cons _ r => r | _ => .nil
noncomputable def asB3 : MSs := match asB2 with | .cons _ r => r | _ => .nil

section
variable {X : Hp} {n d g : Nat} {h h' : Hp} {t : List Nat} {v : V} {W : List Nat → List Nat} {D : List Nat → Option (List Nat)}

theorem slc_to (l : List Nat) (k : Nat) : slc l none (some (k : Int)) = l.take k := by
  unfold slc
  simp only [Option.map_some, Option.map_none, Option.getD_some, Option.getD_none, clamp_nat, List.drop_zero]
  rw [List.take_eq_take_iff]; omega
theorem slc_from (l : List Nat) (k : Nat) : slc l (some ((k : Int) + 1)) none = l.drop (k + 1) := by
  unfold slc
  rw [show (k : Int) + 1 = ((k + 1 : Nat) : Int) by omega]
  simp only [Option.map_some, Option.map_none, Option.getD_some, Option.getD_none, clamp_nat, List.take_length]
  by_cases hk : k + 1 ≤ l.length
  · rw [Nat.min_eq_left hk]
  · rw [Nat.min_eq_right (by omega), List.drop_length, List.drop_eq_nil_of_le (by omega)]

theorem as_for (hw : Writes X g W) (C : Coding W D) {l : List Nat} (hD : D t = some l) (hl : l.length ≤ 3000) {a3 : Option V} : ∀ (ks : List Nat) (h : Hp) (y : Option V), (∀ k ∈ ks, k < l.length) →
    ∃ y' j, mfor (Mi funs X (n + 50) (d + 3)) (fun _ => true) 4 asFor (ks.map fun (i : Nat) => V.int (i : Int)) [some (.fn g), some (.str t), some (.str l), a3, y] h = some (.next, [some (.fn g), some (.str t), some (.str l), a3, y'], h ++ j)
  | [], h, y, _ => ⟨y, [], by rw [List.append_nil]; exact F_nil rfl⟩
  | k :: ks, h, y, hk => by
    have hkl := hk k (.head _)
    have hlen : (l.take k ++ l.drop (k + 1)).length = l.length - 1 := by rw [List.length_append, List.length_take, List.length_drop]; omega
    obtain ⟨j, e⟩ := hw (n + 7) d (l.take k ++ l.drop (k + 1)) h (by omega)
    have hne : W (l.take k ++ l.drop (k + 1)) ≠ t := less_ne C hD (fun q => by have := congrArg List.length q; omega)
    obtain ⟨y', j', ih⟩ := as_for hw C hD hl ks (h ++ j) (some (.int (k : Int))) fun q hq => hk q (.tail _ hq)
    refine ⟨y', j ++ j', (F_turn (m1 := [some (.fn g), some (.str t), some (.str l), a3, some (.int (k : Int))]) (h1 := h ++ j) rfl ?_).trans (by rw [← List.append_assoc]; exact ih)⟩
    refine (X_next (n := n + 49) (m1 := [some (.fn g), some (.str t), some (.str l), a3, some (.int (k : Int))]) (h1 := h ++ j) ((S_no (v := .bool false) (h1 := h ++ j) ?_ rfl).trans X_nil)).trans X_nil
    simp only [Mi_ev, stepE, evs, evO, Option.bind_some, Option.map_some, List.getD_cons_zero, List.getD_cons_succ, List.set_cons_zero, List.set_cons_succ, C0.val, binop, cmpop, truth, bcall, meth, if_true, if_false, Bool.false_eq_true, slc_to, slc_from]
    rw [if_pos (by rw [← List.length_append]; unfold LIM; omega)]
    simp only [Mi_ev, stepE, evs, evO, Option.bind_some, Option.map_some, List.getD_cons_zero, List.getD_cons_succ, List.set_cons_zero, List.set_cons_succ, C0.val, binop, cmpop, truth, bcall, meth, if_true, if_false, Bool.false_eq_true]
    rw [e]
    simp only [Mi_ev, stepE, evs, evO, Option.bind_some, Option.map_some, List.getD_cons_zero, List.getD_cons_succ, List.set_cons_zero, List.set_cons_succ, C0.val, binop, cmpop, truth, bcall, meth, if_true, if_false, Bool.false_eq_true]
    rw [decide_eq_false hne]

theorem as_some (hw : Writes X g W) (C : Coding W D) {l : List Nat} (hD : D t = some l) (hl : l.length ≤ 3000) : ∃ j, (Mi funs X (n + 60) (d + 4)).cl 9 [.fn g, .str t, .str l, .str l] h = some (.bool true, h ++ j) := by
  obtain ⟨j1, e1⟩ := hw (n + 14) d l h hl
  have hW := C.sn t l hD
  have hmin : ((min (l.length : Int) 20).toNat) ≤ l.length := by omega
  obtain ⟨y', j2, e2⟩ := as_for (X := X) (n := n + 6) (d := d) hw C hD hl (a3 := some (.str l)) (List.range (min (l.length : Int) 20).toNat) (h ++ j1) none (fun k hk => by have := List.mem_range.mp hk; omega)
  refine ⟨j1 ++ j2, cl_is (n := n + 59) f_9 rfl ?_⟩
  show RetX X (n + 59) (d + 3) b_law_asked [some (.fn g), some (.str t), some (.str l), some (.str l), none] h _ _
  refine R_no (n := n + 58) (u := .bool false) (h1 := h) rfl rfl T_nil ?_
  refine R_no (n := n + 57) (u := .bool false) (h1 := h ++ j1) ?_ rfl T_nil ?_
  · simp only [Mi_ev, stepE, evs, evO, Option.bind_some, Option.map_some, List.getD_cons_zero, List.getD_cons_succ, List.set_cons_zero, List.set_cons_succ, C0.val, binop, cmpop, truth, bcall, meth, if_true, if_false, Bool.false_eq_true]
    rw [e1]
    simp only [Mi_ev, stepE, evs, evO, Option.bind_some, Option.map_some, List.getD_cons_zero, List.getD_cons_succ, List.set_cons_zero, List.set_cons_succ, C0.val, binop, cmpop, truth, bcall, meth, if_true, if_false, Bool.false_eq_true]
    rw [decide_eq_true hW]
    simp only [Mi_ev, stepE, evs, evO, Option.bind_some, Option.map_some, List.getD_cons_zero, List.getD_cons_succ, List.set_cons_zero, List.set_cons_succ, C0.val, binop, cmpop, truth, bcall, meth, if_true, if_false, Bool.false_eq_true, Bool.not_true]
    rfl
  refine R_next (n := n + 56) (m1 := [some (.fn g), some (.str t), some (.str l), some (.str l), y']) (h1 := (h ++ j1) ++ j2) ((S_for (vs := (List.range (min (l.length : Int) 20).toNat).map fun (i : Nat) => V.int (i : Int)) (chk := fun _ => true) (h1 := h ++ j1) ?_).trans e2) ?_
  · show (if (min (l.length : Int) 20).natAbs ≤ LIM then some ((List.range (min (l.length : Int) 20).toNat).map fun (i : Nat) => V.int (i : Int), fun (_ : Hp) => true, h ++ j1) else Option.none) = _
    rw [if_pos (by unfold LIM; omega)]
  · rw [← List.append_assoc]
    exact R_ret (n := n + 55) rfl

theorem as_none (hw : Writes X g W) (C : Coding W D) (hD : D t = none) {b : List Nat} (hb : b.length ≤ 3000) : ∃ j, (Mi funs X (n + 60) (d + 4)).cl 9 [.fn g, .str t, .none, .str b] h = some (.bool true, h ++ j) := by
  obtain ⟨j1, e1⟩ := hw (n + 15) d b h hb
  have hne : W b ≠ t := none_ne C hD
  refine ⟨j1, cl_is (n := n + 59) f_9 rfl ?_⟩
  show RetX X (n + 59) (d + 3) b_law_asked [some (.fn g), some (.str t), some .none, some (.str b), none] h _ _
  refine R_yesR (n := n + 58) (u := .bool true) (h1 := h) rfl rfl (R_ret (n := n + 57) ?_)
  simp only [Mi_ev, stepE, evs, evO, Option.bind_some, Option.map_some, List.getD_cons_zero, List.getD_cons_succ, List.set_cons_zero, List.set_cons_succ, C0.val, binop, cmpop, truth, bcall, meth, if_true, if_false, Bool.false_eq_true]
  rw [e1]
  simp only [Mi_ev, stepE, evs, evO, Option.bind_some, Option.map_some, List.getD_cons_zero, List.getD_cons_succ, List.set_cons_zero, List.set_cons_succ, C0.val, binop, cmpop, truth, bcall, meth, if_true, if_false, Bool.false_eq_true]
  rw [decide_eq_false hne]
  rfl

/-- what the law asks of a writer holds -/
theorem r_asked (hw : Writes X g W) (C : Coding W D) {b : List Nat} (hb : b.length ≤ 3000) (hB : ∀ l, D t = some l → b = l) : ∃ j, (Mi funs X (n + 60) (d + 4)).cl 9 [.fn g, .str t, readV (D t), .str b] h = some (.bool true, h ++ j) := by
  cases hD : D t with
  | none => exact as_none hw C hD hb
  | some l =>
    have := hB l hD
    subst this
    exact as_some hw C hD hb
end
end Mine

end

section
open PySem
namespace Mine

noncomputable def X0 (xs : List Int) : Hp := [.list (xs.map fun i => V.int i), .dict true 0 [], .dict true 0 [], .dict true 0 []]

section
variable {X : Hp} {n d g : Nat} {m : M} {h h1 h2 h' : Hp} {t : List Nat} {v v1 v2 tv : V}
theorem asked_ev {e1 e2 : ME} {p1 p2 p3 p4 : Pos} (ht : m.getD 1 none = some tv) (he1 : (Mi funs X (n + 1) d).ev e1 m h = some (v1, h1)) (he2 : (Mi funs X (n + 1) d).ev e2 m h1 = some (v2, h2)) (hc : (Mi funs X (n + 1) d).cl 9 [.fn g, tv, v1, v2] h2 = some (v, h')) :
    (Mi funs X (n + 2) d).ev (.call (.glob 9 p1) (.cons (.glob g p2) (.cons (.loc 1 p3) (.cons e1 (.cons e2 .nil)))) p4) m h = some (v, h') := by
  rw [show n + 2 = (n + 1) + 1 from rfl, Mi_ev, stepE]
  have q1 : (Mi funs X (n + 1) d).ev (.glob 9 p1) m h = some (.fn 9, h) := rfl
  have q2 : (Mi funs X (n + 1) d).ev (.glob g p2) m h = some (.fn g, h) := rfl
  have q3 : (Mi funs X (n + 1) d).ev (.loc 1 p3) m h = some (tv, h) := by rw [Mi_ev, stepE, ht]; rfl
  rw [q1, Option.bind_some]
  simp only [evs, q2, q3, he1, he2, Option.bind_some]
  exact hc
theorem not_ev {e : ME} {p : Pos} {b : Bool} (he : (Mi funs X n d).ev e m h = some (.bool b, h')) : (Mi funs X (n + 1) d).ev (.not e p) m h = some (.bool (!b), h') := by rw [Mi_ev, stepE, he]; rfl
theorem read_ev (hn0 : 3010 ≤ n) {i : Nat} {ns : List (List Nat)} {k ep : Nat} {rep : Bool} {c : String} {p1 p2 p3 p4 p5 : Pos} (hn : ns.all (fun w => decide (keyIn w (ents ns) = some (.str (sg w)) ∧ (sg w).length = 1)) = true) (hm1 : m.getD 1 none = some (.str t)) (hmi : m.getD i none = some (.ref k)) (ho : h[k]? = some (.dict rep ep (ents ns))) (ht : t.length ≤ 3000) :
    (Mi funs X (n + 31) (d + 1)).ev (.call (.glob 5 p1) (.cons (.loc 1 p2) (.cons (.loc i p3) (.cons (.cst (.str c) p4) .nil))) p5) m h = some (readV (rdA ns sg (lit c) t), h) := by
  have := r_read' (X := X) (n := n) (d := d) (bare := lit c) hn0 hn ho ht
  simp only [Mi_ev, stepE, evs, evO, Option.bind_some, Option.map_some, List.getD_cons_zero, List.getD_cons_succ, List.set_cons_zero, List.set_cons_succ, C0.val, binop, cmpop, truth, bcall, meth, if_true, if_false, Bool.false_eq_true, hm1, hmi]
  exact this
theorem un_ev {i k ep : Nat} {es : List (List Nat × List Nat)} {e : ME} {p1 p2 p3 : Pos} {l : List Nat} (he : (Mi funs X (n + 30) (d + 2)).ev e m h = some (.str l, h)) (hmi : m.getD i none = some (.ref k)) (ho : h[k]? = some (.dict true ep (encd es))) (hl : l.length ≤ 3000) (hs : ∀ e ∈ es, e.1 ≠ [] ∧ e.2.length ≤ e.1.length ∧ e.2.length ≤ 1000) :
    (Mi funs X (n + 31) (d + 2)).ev (.call (.glob 2 p1) (.cons e (.cons (.loc i p2) .nil)) p3) m h = some (.str (UU es l), h) := by
  rw [Mi_ev, stepE]
  have q1 : (Mi funs X (n + 30) (d + 2)).ev (.glob 2 p1) m h = some (.fn 2, h) := rfl
  have q2 : (Mi funs X (n + 30) (d + 2)).ev (.loc i p2) m h = some (.ref k, h) := by rw [Mi_ev, stepE, hmi]; rfl
  rw [q1, Option.bind_some]
  simp only [evs, he, q2, Option.bind_some]
  exact cl_is (n := n + 29) f_2 rfl (r_unescape (n := n) (dv := .ref k) hl ho hs)
theorem un_ev0 {p1 p2 p3 : Pos} {l : List Nat} (hX : X[2]? = some (.dict true 0 [])) (hm : m.getD 1 none = some (.str l)) (hl : l.length ≤ 3000) :
    (Mi funs X (n + 31) (d + 2)).ev (.call (.glob 2 p1) (.cons (.loc 1 p2) .nil) p3) m h = some (.str (UU [] l), h) := by
  rw [Mi_ev, stepE]
  have q1 : (Mi funs X (n + 30) (d + 2)).ev (.glob 2 p1) m h = some (.fn 2, h) := rfl
  have q2 : (Mi funs X (n + 30) (d + 2)).ev (.loc 1 p2) m h = some (.str l, h) := by rw [Mi_ev, stepE, hm]; rfl
  rw [q1, Option.bind_some]
  simp only [evs, q2, Option.bind_some]
  exact cl_dflt (n := n + 29) (j := 2) f_2 rfl rfl (r_unescape (n := n) (ep := 0) (dv := .ext 2) (es := []) hl hX (fun e he => by cases he))
/-- unescape by a written table of one word -/
theorem un_ev1 {p1 p2 p3 p4 p5 p6 : Pos} {l : List Nat} (hm : m.getD 1 none = some (.str l)) (hl : l.length ≤ 3000) :
    (Mi funs X (n + 31) (d + 2)).ev (.call (.glob 2 p1) (.cons (.loc 1 p2) (.cons (.dict .no (.cons (.cst (.str "&quot;") p3) .nil) (.cons (.cst (.str "\"") p4) .nil) p5) .nil)) p6) m h = some (.str (UU [(lit "&quot;", lit "\"")] l), h ++ [O.dict true 1 (encd [(lit "&quot;", lit "\"")])]) := by
  rw [Mi_ev, stepE]
  have q1 : (Mi funs X (n + 30) (d + 2)).ev (.glob 2 p1) m h = some (.fn 2, h) := rfl
  have q2 : (Mi funs X (n + 30) (d + 2)).ev (.loc 1 p2) m h = some (.str l, h) := by rw [Mi_ev, stepE, hm]; rfl
  have q3 : (Mi funs X (n + 30) (d + 2)).ev (.dict .no (.cons (.cst (.str "&quot;") p3) .nil) (.cons (.cst (.str "\"") p4) .nil) p5) m h = some (.ref h.length, h ++ [O.dict true 1 (encd [(lit "&quot;", lit "\"")])]) := rfl
  rw [q1, Option.bind_some]
  simp only [evs, q2, q3, Option.bind_some]
  exact cl_is (n := n + 29) f_2 rfl (r_unescape (n := n) (ep := 1) (dv := .ref h.length) (es := [(lit "&quot;", lit "\"")]) hl (get_last h _) (by decide))
theorem quoted_ev (hn0 : 3010 ≤ n) {p1 p2 p3 : Pos} (hm : m.getD 1 none = some (.str t)) (ht : t.length ≤ 3000) : ∃ j, (Mi funs X (n + 71) (d + 2)).ev (.call (.glob 6 p1) (.cons (.loc 1 p2) .nil) p3) m h = some (readV (D3 t), h ++ j) := by
  obtain ⟨j, e⟩ := r_quoted (X := X) (n := n) (d := d) (h := h) hn0 ht
  refine ⟨j, ?_⟩
  rw [Mi_ev, stepE]
  have q1 : (Mi funs X (n + 70) (d + 2)).ev (.glob 6 p1) m h = some (.fn 6, h) := rfl
  have q2 : (Mi funs X (n + 70) (d + 2)).ev (.loc 1 p2) m h = some (.str t, h) := by rw [Mi_ev, stepE, hm]; rfl
  rw [q1, Option.bind_some]
  simp only [evs, q2, Option.bind_some]
  exact e
end

theorem wr1 {X : Hp} (hX : X[1]? = some (.dict true 0 [])) : Writes X 7 W1 := fun n d l h hl => ⟨[], by rw [List.append_nil]; exact r_plain hX hl⟩
theorem wr2 {X : Hp} : Writes X 8 W2 := fun n d l h hl => ⟨_, r_marked hl⟩
theorem wr3 {X : Hp} (hX : X[3]? = some (.dict true 0 [])) : Writes X 3 W3 := fun n d l h hl => ⟨_, r_quoteattr hX hl⟩
theorem rest_ok (t : List Nat) : ∀ e ∈ rest t, e.1 ≠ [] ∧ e.2.length ≤ e.1.length ∧ e.2.length ≤ 1000 := by
  unfold rest
  split <;> decide
theorem inner_len (t : List Nat) : (inner t).length ≤ t.length := slc_len t _ _

noncomputable def lB1 : MSs := match b_law with | .cons _ r => r | _ => .nil
noncomputable def lB2 : MSs := match lB1 with | .cons _ r => r | _ => .nil
noncomputable def lB3 : MSs := match lB2 with | .cons _ r => r | _ => .nil
noncomputable def lB4 : MSs := match lB3 with | .cons _ r => r | _ => .nil
noncomputable def lB5 : MSs := match lB4 with | .cons _ r => r | _ => .nil
noncomputable def lB6 : MSs := match lB5 with | .cons _ r => r | _ => .nil
noncomputable def lB7 : MSs := match lB6 with | .cons _ r => r | _ => .nil
noncomputable def lB8 : MSs := match lB7 with | .cons _ r => r | _ => .nil
noncomputable def lB9 : MSs := match lB8 with | .cons _ r => r | _ => .nil

section
variable {n d : Nat} {xs : List Int} {t : List Nat} {h h' : Hp} {v : V}

/-- the last thing asked -/
theorem law9 (hn0 : 3010 ≤ n) (ht : t.length ≤ 3000) {a0 a2 : Option V} {k ep : Nat} (ho : h[k]? = some (.dict true ep (encd (rest t)))) : ∃ h', RetX (X0 xs) (n + 81) (d + 4) lB9 [a0, some (.str t), a2, some (.ref k)] h (.bool true) h' := by
  obtain ⟨j1, e1⟩ := quoted_ev (X := X0 xs) (n := n + 8) (d := d + 2) (h := h) (m := [a0, some (.str t), a2, some (.ref k)]) (p1 := ⟨97, 39, 97, 50⟩) (p2 := ⟨97, 51, 97, 55⟩) (p3 := ⟨97, 39, 97, 56⟩) (by omega) rfl ht
  have hk : k < h.length := by
    rcases Nat.lt_or_ge k h.length with q | q
    · exact q
    · rw [List.getElem?_eq_none q] at ho; cases ho
  have hil := inner_len t
  obtain ⟨_, _, _, _, hub⟩ := UU_ok (rest_ok t) (show (inner t).length ≤ 3000 by omega)
  obtain ⟨j2, e2⟩ := r_asked (X := X0 xs) (n := n + 19) (d := d) (h := h ++ j1) (t := t) (b := UU (rest t) (inner t)) (wr3 rfl) C3 (by omega) (fun l e => B3 e)
  refine ⟨(h ++ j1) ++ j2, R_ret (n := n + 80) ?_⟩
  refine asked_ev (n := n + 78) (h1 := h ++ j1) (h2 := h ++ j1) rfl e1 ?_ e2
  exact un_ev (X := X0 xs) (n := n + 48) (d := d + 2) (i := 3) (k := k) (ep := ep) (es := rest t) rfl rfl (by rw [List.getElem?_append_left hk]; exact ho) (by omega) (rest_ok t)

theorem law7 (hn0 : 3010 ≤ n) (ht : t.length ≤ 3000) {a0 a2 a3 : Option V} : ∃ h', RetX (X0 xs) (n + 83) (d + 4) lB7 [a0, some (.str t), a2, a3] h (.bool true) h' := by
  have er : encd whitesR = ents [lit "&#10;", lit "&#13;", lit "&#9;"] := by decide
  have er2 : ents ([lit "&#10;", lit "&#13;", lit "&#9;"] ++ [lit "&quot;"]) = encd (whitesR ++ [(lit "&quot;", lit "\"")]) := by decide
  have hg := get_last h (O.dict true 3 (encd whitesR))
  have test : ∀ {p1 p2 p3 p4 p5 p6 : Pos}, (Mi funs (X0 xs) (n + 81) (d + 4)).ev (.cmp .Eq (.slice (.loc 1 p1) .no (.yes (.cst (.int 1) p2)) p3 p4) (.cst (.str "\"") p5) p6) [a0, some (.str t), a2, some (.ref h.length)] (h ++ [O.dict true 3 (encd whitesR)]) = some (.bool (decide (t.take 1 = [34])), h ++ [O.dict true 3 (encd whitesR)]) := by
    intro p1 p2 p3 p4 p5 p6
    simp only [Mi_ev, stepE, evs, evO, Option.bind_some, Option.map_some, List.getD_cons_zero, List.getD_cons_succ, List.set_cons_zero, List.set_cons_succ, C0.val, binop, cmpop, truth, bcall, meth, if_true, if_false, Bool.false_eq_true]
    rw [show slc t none (some 1) = t.take 1 from slc_to t 1]
    rfl
  by_cases hq : t.take 1 = [34]
  · have hr : rest t = whitesR ++ [(lit "&quot;", lit "\"")] := by unfold rest; rw [if_pos hq]
    obtain ⟨ep', hs⟩ := put_quot (X := X0 xs) (n := n + 77) (d := d + 4) (ep := 3) (ns := [lit "&#10;", lit "&#13;", lit "&#9;"]) (h := h ++ [O.dict true 3 (encd whitesR)]) (k := h.length) (i := 3) (p1 := ⟨96, 8, 96, 13⟩) (p2 := ⟨96, 14, 96, 22⟩) (p3 := ⟨96, 8, 96, 23⟩) (p4 := ⟨96, 26, 96, 29⟩) (p5 := ⟨96, 8, 96, 29⟩) (m := [a0, some (.str t), a2, some (.ref h.length)]) (by decide) (by decide) rfl (by rw [← er]; exact hg)
    rw [set_last, er2, ← hr] at hs
    obtain ⟨h', e⟩ := law9 (n := n) (d := d) (xs := xs) (h := h ++ [O.dict true ep' (encd (rest t))]) (a0 := a0) (a2 := a2) hn0 ht (get_last h _)
    refine ⟨h', R_asg (n := n + 82) (u := .ref h.length) (h1 := h ++ [O.dict true 3 (encd whitesR)]) rfl ?_⟩
    refine R_yes (n := n + 81) (u := .bool true) (h1 := h ++ [O.dict true 3 (encd whitesR)]) (test.trans (by rw [decide_eq_true hq])) rfl (T_next (n := n + 80) (h1 := h ++ [O.dict true ep' (encd (rest t))]) hs T_nil) e
  · have hr : rest t = whitesR := by unfold rest; rw [if_neg hq]
    obtain ⟨h', e⟩ := law9 (n := n) (d := d) (xs := xs) (h := h ++ [O.dict true 3 (encd whitesR)]) (a0 := a0) (a2 := a2) (k := h.length) (ep := 3) hn0 ht (by rw [hr]; exact hg)
    refine ⟨h', R_asg (n := n + 82) (u := .ref h.length) (h1 := h ++ [O.dict true 3 (encd whitesR)]) rfl ?_⟩
    exact R_no (n := n + 81) (u := .bool false) (h1 := h ++ [O.dict true 3 (encd whitesR)]) (test.trans (by rw [decide_eq_false hq])) rfl T_nil e
end
end Mine

end

section
open PySem
namespace Mine
section
variable {n d : Nat} {xs : List Int} {t : List Nat} {h h' : Hp} {v : V}

theorem law4 (hn0 : 3010 ≤ n) (ht : t.length ≤ 3000) {a0 a3 : Option V} {k ep : Nat} (ho : h[k]? = some (.dict true ep (ents names3))) : ∃ h', RetX (X0 xs) (n + 86) (d + 4) lB4 [a0, some (.str t), some (.ref k), a3] h (.bool true) h' := by
  have hk : k < h.length := by
    rcases Nat.lt_or_ge k h.length with q | q
    · exact q
    · rw [List.getElem?_eq_none q] at ho; cases ho
  have hu1 := (UU_ok (es := []) (l := t) (fun e he => by cases he) ht).2.2.2.2
  have hu2 := (UU_ok (es := [(lit "&quot;", lit "\"")]) (l := t) (by decide) ht).2.2.2.2
  obtain ⟨j1, e1⟩ := r_asked (X := X0 xs) (n := n + 23) (d := d) (h := h) (t := t) (b := UU [] t) (wr1 rfl) C1 (by omega) (fun l e => B1 e)
  have ho1 : (h ++ j1)[k]? = some (.dict true ep (ents names3)) := by rw [List.getElem?_append_left hk]; exact ho
  obtain ⟨ep', hs⟩ := put_quot (X := X0 xs) (n := n + 81) (d := d + 4) (ep := ep) (ns := names3) (h := h ++ j1) (k := k) (i := 2) (p1 := ⟨91, 4, 91, 9⟩) (p2 := ⟨91, 10, 91, 18⟩) (p3 := ⟨91, 4, 91, 19⟩) (p4 := ⟨91, 22, 91, 25⟩) (p5 := ⟨91, 4, 91, 25⟩) (m := [a0, some (.str t), some (.ref k), a3]) (by decide) (by decide) rfl ho1
  have ho2 : ((h ++ j1).set k (O.dict true ep' (ents (names3 ++ [lit "&quot;"]))))[k]? = some (.dict true ep' (ents names4)) := by
    rw [List.getElem?_set_self (by rw [List.length_append]; omega)]; rfl
  generalize hh2 : (h ++ j1).set k (O.dict true ep' (ents (names3 ++ [lit "&quot;"]))) = h2 at hs ho2
  obtain ⟨j2, e2⟩ := r_asked (X := X0 xs) (n := n + 21) (d := d) (h := h2 ++ [O.dict true 1 (encd [(lit "&quot;", lit "\"")])]) (t := t) (b := UU [(lit "&quot;", lit "\"")] t) wr2 C2 (by omega) (fun l e => B2 e)
  obtain ⟨h', e3⟩ := law7 (n := n) (d := d) (xs := xs) (t := t) (h := (h2 ++ [O.dict true 1 (encd [(lit "&quot;", lit "\"")])]) ++ j2) (a0 := a0) (a2 := some (.ref k)) (a3 := a3) hn0 ht
  refine ⟨h', R_no (n := n + 85) (u := .bool false) (h1 := h ++ j1) ?_ rfl T_nil ?_⟩
  · refine not_ev (n := n + 84) (b := true) (asked_ev (n := n + 82) (h1 := h) (h2 := h) rfl ?_ ?_ e1)
    · exact read_ev (n := n + 52) (d := d + 3) (i := 2) (k := k) (ns := names3) (by omega) (by decide) rfl rfl ho ht
    · exact un_ev0 (n := n + 52) (d := d + 2) rfl rfl ht
  refine R_next (n := n + 84) (h1 := h2) hs ?_
  refine R_no (n := n + 83) (u := .bool false) (h1 := (h2 ++ [O.dict true 1 (encd [(lit "&quot;", lit "\"")])]) ++ j2) ?_ rfl T_nil e3
  refine not_ev (n := n + 82) (b := true) (asked_ev (n := n + 80) (h1 := h2) (h2 := h2 ++ [O.dict true 1 (encd [(lit "&quot;", lit "\"")])]) rfl ?_ ?_ e2)
  · exact read_ev (n := n + 50) (d := d + 3) (i := 2) (k := k) (ns := names4) (by omega) (by decide) rfl rfl ho2 ht
  · exact un_ev1 (n := n + 50) (d := d + 2) rfl ht

theorem law_plain_true (hn0 : 3010 ≤ n) (hx : xs.length ≤ 63) : ∃ m' h', (Mi funs (X0 xs) (n + 90) 20).ex b_law [some (.ext 0), none, none, none] [] = some (.ret (.bool true), m', h') := by
  obtain ⟨t0, l0, e0⟩ := r_pieces (X := X0 xs) (n := n + 48) (d := 19) (h := []) (xs := xs) rfl hx
  have key : ∀ t : List Nat, t.length ≤ 3000 → ∃ h', RetX (X0 xs) (n + 87) 20 lB3 [some (.ext 0), some (.str t), none, none] ([] ++ [.list evry, .list gd]) (.bool true) h' := by
    intro t ht
    obtain ⟨h', e⟩ := law4 (n := n) (d := 16) (xs := xs) (t := t) (h := ([] ++ [O.list evry, O.list gd]) ++ [O.dict true 3 (ents names3)]) (a0 := some (.ext 0)) (a3 := none) (k := 2) (ep := 3) hn0 ht rfl
    exact ⟨h', R_asg (n := n + 86) (u := .ref 2) (h1 := ([] ++ [O.list evry, O.list gd]) ++ [O.dict true 3 (ents names3)]) rfl e⟩
  have test : ∀ {k : Nat} {c : Int} {t : List Nat} {p1 p2 p3 p4 p5 p6 p7 : Pos}, (Mi funs (X0 xs) (k + 9) 20).ev (.cmp .Eq (.bin .Mod (.bcall .len p1 (.cons (.loc 0 p2) .nil) p3) (.cst (.int 3) p4) p5) (.cst (.int c) p6) p7) [some (.ext 0), some (.str t), none, none] ([] ++ [.list evry, .list gd]) =
      some (.bool (decide (Int.fmod ((xs.map fun i => V.int i).length : Nat) 3 = c)), [] ++ [.list evry, .list gd]) := by
    intro k c t p1 p2 p3 p4 p5 p6 p7
    rfl
  have wrap : ∀ {k : Nat} {c : String} {t : List Nat} {p1 p2 p3 p4 p5 : Pos}, t.length ≤ 1000 → (lit c).length = 1 → (Mi funs (X0 xs) (k + 9) 20).ev (.bin .Add (.bin .Add (.cst (.str c) p1) (.loc 1 p2) p3) (.cst (.str c) p4) p5) [some (.ext 0), some (.str t), none, none] ([] ++ [.list evry, .list gd]) =
      some (.str ((lit c ++ t) ++ lit c), [] ++ [.list evry, .list gd]) := by
    intro k c t p1 p2 p3 p4 p5 ht hc
    simp only [Mi_ev, stepE, evs, evO, Option.bind_some, Option.map_some, List.getD_cons_zero, List.getD_cons_succ, List.set_cons_zero, List.set_cons_succ, C0.val, binop, cmpop, truth, bcall, meth, if_true, if_false, Bool.false_eq_true]
    rw [if_pos (by unfold LIM; omega)]
    simp only [Mi_ev, stepE, evs, evO, Option.bind_some, Option.map_some, List.getD_cons_zero, List.getD_cons_succ, List.set_cons_zero, List.set_cons_succ, C0.val, binop, cmpop, truth, bcall, meth, if_true, if_false, Bool.false_eq_true]
    rw [if_pos (by rw [List.length_append]; unfold LIM; omega)]
    rfl
  have second : ∀ t : List Nat, t.length ≤ 1000 → ∃ h', RetX (X0 xs) (n + 88) 20 lB2 [some (.ext 0), some (.str t), none, none] ([] ++ [.list evry, .list gd]) (.bool true) h' := by
    intro t ht
    by_cases hc : Int.fmod ((xs.map fun i => V.int i).length : Nat) 3 = 2
    · obtain ⟨h', e⟩ := key ((lit "\"" ++ t) ++ lit "\"") (by rw [List.length_append, List.length_append, show (lit "\"").length = 1 from rfl]; omega)
      exact ⟨h', R_yes (n := n + 87) (u := .bool true) (h1 := [] ++ [O.list evry, O.list gd]) (test.trans (by rw [decide_eq_true hc])) rfl (T_asg (n := n + 86) (u := .str ((lit "\"" ++ t) ++ lit "\"")) (h1 := [] ++ [O.list evry, O.list gd]) (wrap ht rfl) T_nil) e⟩
    · obtain ⟨h', e⟩ := key t (by omega)
      exact ⟨h', R_no (n := n + 87) (u := .bool false) (h1 := [] ++ [O.list evry, O.list gd]) (test.trans (by rw [decide_eq_false hc])) rfl T_nil e⟩
  have first : ∃ h', RetX (X0 xs) (n + 89) 20 lB1 [some (.ext 0), some (.str t0), none, none] ([] ++ [.list evry, .list gd]) (.bool true) h' := by
    by_cases hc : Int.fmod ((xs.map fun i => V.int i).length : Nat) 3 = 1
    · obtain ⟨h', e⟩ := second ((lit "'" ++ t0) ++ lit "'") (by rw [List.length_append, List.length_append, show (lit "'").length = 1 from rfl]; omega)
      exact ⟨h', R_yes (n := n + 88) (u := .bool true) (h1 := [] ++ [O.list evry, O.list gd]) (test.trans (by rw [decide_eq_true hc])) rfl (T_asg (n := n + 87) (u := .str ((lit "'" ++ t0) ++ lit "'")) (h1 := [] ++ [O.list evry, O.list gd]) (wrap (by omega) rfl) T_nil) e⟩
    · obtain ⟨h', e⟩ := second t0 (by omega)
      exact ⟨h', R_no (n := n + 88) (u := .bool false) (h1 := [] ++ [O.list evry, O.list gd]) (test.trans (by rw [decide_eq_false hc])) rfl T_nil e⟩
  obtain ⟨h', e⟩ := first
  have call0 : ∀ {p1 p2 p3 : Pos}, (Mi funs (X0 xs) (n + 89) 20).ev (.call (.glob 4 p1) (.cons (.loc 0 p2) .nil) p3) [some (.ext 0), none, none, none] [] = some (.str t0, [] ++ [.list evry, .list gd]) := by
    intro p1 p2 p3
    simp only [Mi_ev, stepE, evs, evO, Option.bind_some, Option.map_some, List.getD_cons_zero, List.getD_cons_succ, List.set_cons_zero, List.set_cons_succ, C0.val, binop, cmpop, truth, bcall, meth, if_true, if_false, Bool.false_eq_true]
    exact e0
  obtain ⟨m', q⟩ := R_asg (n := n + 89) (i := 1) (tp := ⟨83, 4, 83, 8⟩) (p := ⟨83, 4, 83, 30⟩) (u := .str t0) (h1 := [] ++ [O.list evry, O.list gd]) (call0 (p1 := ⟨83, 11, 83, 22⟩) (p2 := ⟨83, 23, 83, 29⟩) (p3 := ⟨83, 11, 83, 30⟩)) e
  exact ⟨m', h', q⟩
theorem law_true (xs : List Int) (hx : xs.length ≤ 63) : ∃ n m' h', (Mi funs (X0 xs) n 20).ex b_law [some (.ext 0), none, none, none] [] = some (.ret (.bool true), m', h') := ⟨3010 + 90, law_plain_true (n := 3010) (Nat.le_refl _) hx⟩
end
end Mine

end

section
open PySem PySem.Calls PyProof.Rows PySem.W
set_option maxRecDepth 100000
set_option maxHeartbeats 8000000
namespace Mine
open_top hd1 for PySem.Challenge.rw_at0008_01

/-- what the heap holds at the law's call -/
noncomputable def fr (P : Params) (a : Addr) : Obj := ((hd1.heap_39 P).lookup a).getD default
noncomputable def fdOf (P : Params) (a : Addr) : FuncData := match (fr P a).data with | .func fd => fd | _ => default

theorem fr_at {P : Params} {h : Heap} (K : (hd1.heap_39 P).In h) (a : Addr) (e : ((hd1.heap_39 P).lookup a).isSome = true) : h.get? a = some (fr P a) := by
  refine K a _ ?_
  unfold fr
  cases hh : (hd1.heap_39 P).lookup a with
  | none => rw [hh] at e; cases e
  | some o => rfl

noncomputable def cx (w : World) (G : Heap) (lst : Addr) (xs : List Int) (mg mb : Str → Option Value) (prog : Program) : Cx :=
  { prog := prog, w := w, L := ⟨[21, 30, 39, 48, 55, 62, 69, 76, 83, 90, 97], [lst, 22, 31, 40]⟩, F := funs, X := [.list (xs.map fun i => V.int i), .dict true 0 [], .dict true 0 [], .dict true 0 []], G := G, globs := fnames, mg := mg, mb := mb }

theorem code_rec {P : Params} {h : Heap} (K : (hd1.heap_39 P).In h) (a c : Addr) (q : Str) (e : ((hd1.heap_39 P).lookup c).isSome = true) (hc : (fdOf P a).code = .ref c) (hq : (match (fr P c).data with | .fields vs => (match vs[1]? with | some (Value.str q' t) => q' == q | _ => false) | _ => false) = true) : h.CodeRec (fdOf P a).code q := by
  have h1 := fr_at K c e
  revert hq h1
  generalize fr P c = o
  intro hq h1
  split at hq
  · rename_i vs hd
    split at hq
    · rename_i q' t hv
      rw [beq_iff_eq.mp hq] at hv
      exact ⟨c, o, vs, t, hc, h1, hd, hv⟩
    · cases hq
  · cases hq

theorem len1 {α : Type} : ∀ {xs : List α}, xs.length = 1 → ∃ a, xs = [a]
  | [a], _ => ⟨a, rfl⟩
theorem len2 {α : Type} : ∀ {xs : List α}, xs.length = 2 → ∃ a b, xs = [a, b]
  | [a, b], _ => ⟨a, b, rfl⟩
theorem len3 {α : Type} : ∀ {xs : List α}, xs.length = 3 → ∃ a b c, xs = [a, b, c]
  | [a, b, c], _ => ⟨a, b, c, rfl⟩
theorem len4 {α : Type} : ∀ {xs : List α}, xs.length = 4 → ∃ a b c d, xs = [a, b, c, d]
  | [a, b, c, d], _ => ⟨a, b, c, d, rfl⟩

section
variable {w : World} {G : Heap} {lst : Addr} {xs : List Int} {mg mb : Str → Option Value} {prog : Program}

/-- what can be looked at -/
noncomputable def looks (fn : Fn) (fd : FuncData) (N : Nm) : Bool :=
  fn.body.ok N fd.scope && (fd.scope.names.all fun x => decide (x.2 ≠ .cell)) && ((N.slots.take fn.np).all fun x => decide (fd.scope.names.lookup x = some .local)) && decide (fd.globals = mainGlobals) && decide (fd.builtins = builtinsNs) &&
  !fd.scope.isCoroutine && !fd.scope.isGenerator && decide (fd.scope.kind = .function) && decide (N.globs = fnames) && decide N.slots.Nodup && decide (N.slots.length = fn.nslots) && decide (fn.np ≤ fn.nslots)

theorem fnOk_of {a : Addr} {fn : Fn} {N : Nm} {c : Addr} (K : (hd1.heap_39 w.params).In G) (hl : looks fn (fdOf w.params a) N = true) (ha : ((hd1.heap_39 w.params).lookup a).isSome = true) (hd : (fr w.params a).data = .func (fdOf w.params a)) (hb : (fdOf w.params a).body = .stmts (fn.body.back N))
    (e : ((hd1.heap_39 w.params).lookup c).isSome = true) (hc : (fdOf w.params a).code = .ref c) (hq : (match (fr w.params c).data with | .fields vs => (match vs[1]? with | some (Value.str q' t) => q' == (fdOf w.params a).qualname | _ => false) | _ => false) = true)
    (bind : ∀ (s : Shared) (xs : List Value), (∀ b o, G.get? b = some o → s.heap.get? b = some o) → xs.length = fn.np → BindsTo s (fdOf w.params a) ⟨xs, []⟩ ((N.slots.take fn.np).zip xs))
    (bindD : ∀ j, fn.dflt = some j → ∃ x, VR (cx w G lst xs mg mb prog).L [] 0 (.ext j) x ∧ ∀ (s : Shared) (xs : List Value), (∀ b o, G.get? b = some o → s.heap.get? b = some o) → xs.length + 1 = fn.np → BindsTo s (fdOf w.params a) ⟨xs, []⟩ ((N.slots.take fn.np).zip (xs ++ [x]))) :
    FnOk (cx w G lst xs mg mb prog) fn a (fr w.params a) (fdOf w.params a) N := by
  unfold looks at hl
  simp only [Bool.and_eq_true, decide_eq_true_eq, List.all_eq_true, Bool.not_eq_true'] at hl
  obtain ⟨⟨⟨⟨⟨⟨⟨⟨⟨⟨⟨h1, h2⟩, h3⟩, h4⟩, h5⟩, h6⟩, h7⟩, h8⟩, h9⟩, h10⟩, h11⟩, h12⟩ := hl
  exact ⟨fr_at K a ha, hd, hb, h1, code_rec K a c _ e hc hq, h2, h3, h4, h5, h6, h7, h8, h9, h10, h11, h12, bind, bindD⟩

theorem fn_dict_replace_saxutils (K : (hd1.heap_39 w.params).In G) : FnOk (cx w G lst xs mg mb prog) ⟨2, 4, b_dict_replace_saxutils, .none⟩ 21 (fr w.params 21) (fdOf w.params 21) nm_dict_replace_saxutils :=
  fnOk_of (c := 20) K (by kernel_rfl) rfl rfl rfl rfl rfl rfl
    (fun s xs hk hl => by obtain ⟨a, b, rfl⟩ := len2 hl; exact BindsTo.of_eq rfl) (fun j hj => by cases hj)
theorem fn_escape (K : (hd1.heap_39 w.params).In G) : FnOk (cx w G lst xs mg mb prog) ⟨2, 2, b_escape, some 1⟩ 30 (fr w.params 30) (fdOf w.params 30) nm_escape :=
  fnOk_of (c := 29) K (by kernel_rfl) rfl rfl rfl rfl rfl rfl
    (fun s xs hk hl => by obtain ⟨a, b, rfl⟩ := len2 hl; exact BindsTo.of_defaults (T := 23) rfl (hk _ _ (fr_at K 23 rfl)) rfl rfl rfl)
    (fun j hj => by cases hj; exact ⟨.ref 22, ⟨22, rfl, rfl⟩, fun s xs hk hl => by obtain ⟨a, rfl⟩ := len1 (Nat.succ.inj hl); exact BindsTo.of_defaults (T := 23) rfl (hk _ _ (fr_at K 23 rfl)) rfl rfl rfl⟩)
theorem fn_unescape (K : (hd1.heap_39 w.params).In G) : FnOk (cx w G lst xs mg mb prog) ⟨2, 2, b_unescape, some 2⟩ 39 (fr w.params 39) (fdOf w.params 39) nm_unescape :=
  fnOk_of (c := 38) K (by kernel_rfl) rfl rfl rfl rfl rfl rfl
    (fun s xs hk hl => by obtain ⟨a, b, rfl⟩ := len2 hl; exact BindsTo.of_defaults (T := 32) rfl (hk _ _ (fr_at K 32 rfl)) rfl rfl rfl)
    (fun j hj => by cases hj; exact ⟨.ref 31, ⟨31, rfl, rfl⟩, fun s xs hk hl => by obtain ⟨a, rfl⟩ := len1 (Nat.succ.inj hl); exact BindsTo.of_defaults (T := 32) rfl (hk _ _ (fr_at K 32 rfl)) rfl rfl rfl⟩)
theorem fn_quoteattr (K : (hd1.heap_39 w.params).In G) : FnOk (cx w G lst xs mg mb prog) ⟨2, 2, b_quoteattr, some 3⟩ 48 (fr w.params 48) (fdOf w.params 48) nm_quoteattr :=
  fnOk_of (c := 47) K (by kernel_rfl) rfl rfl rfl rfl rfl rfl
    (fun s xs hk hl => by obtain ⟨a, b, rfl⟩ := len2 hl; exact BindsTo.of_defaults (T := 41) rfl (hk _ _ (fr_at K 41 rfl)) rfl rfl rfl)
    (fun j hj => by cases hj; exact ⟨.ref 40, ⟨40, rfl, rfl⟩, fun s xs hk hl => by obtain ⟨a, rfl⟩ := len1 (Nat.succ.inj hl); exact BindsTo.of_defaults (T := 41) rfl (hk _ _ (fr_at K 41 rfl)) rfl rfl rfl⟩)
theorem fn_law_pieces (K : (hd1.heap_39 w.params).In G) : FnOk (cx w G lst xs mg mb prog) ⟨1, 6, b_law_pieces, .none⟩ 55 (fr w.params 55) (fdOf w.params 55) nm_law_pieces :=
  fnOk_of (c := 54) K (by kernel_rfl) rfl rfl rfl rfl rfl rfl
    (fun s xs hk hl => by obtain ⟨a, rfl⟩ := len1 hl; exact BindsTo.of_eq rfl) (fun j hj => by cases hj)
theorem fn_law_read (K : (hd1.heap_39 w.params).In G) : FnOk (cx w G lst xs mg mb prog) ⟨3, 8, b_law_read, .none⟩ 62 (fr w.params 62) (fdOf w.params 62) nm_law_read :=
  fnOk_of (c := 61) K (by kernel_rfl) rfl rfl rfl rfl rfl rfl
    (fun s xs hk hl => by obtain ⟨a, b, c, rfl⟩ := len3 hl; exact BindsTo.of_eq rfl) (fun j hj => by cases hj)
theorem fn_law_quoted (K : (hd1.heap_39 w.params).In G) : FnOk (cx w G lst xs mg mb prog) ⟨1, 3, b_law_quoted, .none⟩ 69 (fr w.params 69) (fdOf w.params 69) nm_law_quoted :=
  fnOk_of (c := 68) K (by kernel_rfl) rfl rfl rfl rfl rfl rfl
    (fun s xs hk hl => by obtain ⟨a, rfl⟩ := len1 hl; exact BindsTo.of_eq rfl) (fun j hj => by cases hj)
theorem fn_law_plain (K : (hd1.heap_39 w.params).In G) : FnOk (cx w G lst xs mg mb prog) ⟨1, 1, b_law_plain, .none⟩ 76 (fr w.params 76) (fdOf w.params 76) nm_law_plain :=
  fnOk_of (c := 75) K (by kernel_rfl) rfl rfl rfl rfl rfl rfl
    (fun s xs hk hl => by obtain ⟨a, rfl⟩ := len1 hl; exact BindsTo.of_eq rfl) (fun j hj => by cases hj)
theorem fn_law_marked (K : (hd1.heap_39 w.params).In G) : FnOk (cx w G lst xs mg mb prog) ⟨1, 1, b_law_marked, .none⟩ 83 (fr w.params 83) (fdOf w.params 83) nm_law_marked :=
  fnOk_of (c := 82) K (by kernel_rfl) rfl rfl rfl rfl rfl rfl
    (fun s xs hk hl => by obtain ⟨a, rfl⟩ := len1 hl; exact BindsTo.of_eq rfl) (fun j hj => by cases hj)
theorem fn_law_asked (K : (hd1.heap_39 w.params).In G) : FnOk (cx w G lst xs mg mb prog) ⟨4, 5, b_law_asked, .none⟩ 90 (fr w.params 90) (fdOf w.params 90) nm_law_asked :=
  fnOk_of (c := 89) K (by kernel_rfl) rfl rfl rfl rfl rfl rfl
    (fun s xs hk hl => by obtain ⟨a, b, c, d, rfl⟩ := len4 hl; exact BindsTo.of_eq rfl) (fun j hj => by cases hj)
theorem fn_law (K : (hd1.heap_39 w.params).In G) : FnOk (cx w G lst xs mg mb prog) ⟨1, 4, b_law, .none⟩ 97 (fr w.params 97) (fdOf w.params 97) nm_law :=
  fnOk_of (c := 96) K (by kernel_rfl) rfl rfl rfl rfl rfl rfl
    (fun s xs hk hl => by obtain ⟨a, rfl⟩ := len1 hl; exact BindsTo.of_eq rfl) (fun j hj => by cases hj)

theorem fns_ok (K : (hd1.heap_39 w.params).In G) : ∀ (g : Nat) (fn : Fn), (cx w G lst xs mg mb prog).F[g]? = some fn → ∃ a o fd N, (cx w G lst xs mg mb prog).L.fa[g]? = some a ∧ FnOk (cx w G lst xs mg mb prog) fn a o fd N := by
  intro g fn e
  have hg : g < 11 := by
    rcases Nat.lt_or_ge g 11 with h | h
    · exact h
    · have e2 : funs[g]? = some fn := e
      rw [List.getElem?_eq_none (show funs.length ≤ g from h)] at e2
      cases e2
  match g, hg, e with
  | 0, _, e => cases e; exact ⟨_, _, _, _, rfl, fn_dict_replace_saxutils K⟩
  | 1, _, e => cases e; exact ⟨_, _, _, _, rfl, fn_escape K⟩
  | 2, _, e => cases e; exact ⟨_, _, _, _, rfl, fn_unescape K⟩
  | 3, _, e => cases e; exact ⟨_, _, _, _, rfl, fn_quoteattr K⟩
  | 4, _, e => cases e; exact ⟨_, _, _, _, rfl, fn_law_pieces K⟩
  | 5, _, e => cases e; exact ⟨_, _, _, _, rfl, fn_law_read K⟩
  | 6, _, e => cases e; exact ⟨_, _, _, _, rfl, fn_law_quoted K⟩
  | 7, _, e => cases e; exact ⟨_, _, _, _, rfl, fn_law_plain K⟩
  | 8, _, e => cases e; exact ⟨_, _, _, _, rfl, fn_law_marked K⟩
  | 9, _, e => cases e; exact ⟨_, _, _, _, rfl, fn_law_asked K⟩
  | 10, _, e => cases e; exact ⟨_, _, _, _, rfl, fn_law K⟩

end
end Mine

end

section
open PySem PySem.Calls PyProof.Rows PySem.W
set_option maxRecDepth 100000
set_option maxHeartbeats 8000000
namespace Mine
theorem ints_all2 {L : Pl} {β : List Addr} {T : Nat} : ∀ {vals : List Value} {xs : List Int}, IntsAre vals xs → All2 (VR L β T) (xs.map fun i => V.int i) vals := by
  intro vals xs h
  induction h with
  | nil => trivial
  | cons n t h ih => exact ⟨⟨t, rfl⟩, ih⟩
section
variable {w : World} {G : Heap} {lst : Addr} {xs : List Int} {mg mb : Str → Option Value} {prog : Program}
theorem ns_at {h : Heap} {a : Addr} {f : Str → Option Value} {o : Obj} {es : Array DictEntry} {ep : Nat} (n : h.Ns a f) (ho : h.get? a = some o) (hd : o.data = .dict es ep) (x : Str) : f x = nsFind es x := by
  obtain ⟨o', es', ep', ho', hd', _, e⟩ := n
  rw [ho] at ho'
  cases ho'
  rw [hd] at hd'
  cases hd'
  exact (e x).symm

noncomputable def gArr (P : Params) : Array DictEntry := match (fr P 3).data with | .dict es _ => es | _ => #[]
theorem key_at (K : (hd1.heap_39 w.params).In G) (hg : G.Ns mainGlobals mg) (x : Str) : mg x = nsFind (gArr w.params) x := ns_at hg (fr_at K 3 rfl) (es := gArr w.params) (ep := 20) rfl x
theorem cx_ok (K : (hd1.heap_39 w.params).In G) (hn : G.NoLimit) (hg : G.Ns mainGlobals mg) (hb : G.Ns builtinsNs mb) (hbi : ∀ x : Str, x ≠ "__name__" → mb x = bootBuiltins x) {vals : List Value} (hl : G.IsList lst vals.toArray) (hi : IntsAre vals xs) (hx : xs.length ≤ 63)
     : (cx w G lst xs mg mb prog).Ok where
  nolimit := hn
  booked := ⟨fun _ => none, ⟨_, #[], 0, fr_at K 2 rfl, rfl, (fun e he => by simp at he), fun _ => rfl⟩, rfl⟩
  g := hg
  b := hb
  fn := by
    intro i a e
    have key := key_at K hg
    have hi : i < 11 := by
      rcases Nat.lt_or_ge i 11 with h | h
      · exact h
      · have e2 : ([21, 30, 39, 48, 55, 62, 69, 76, 83, 90, 97] : List Addr)[i]? = some a := e
        rw [List.getElem?_eq_none (show ([21, 30, 39, 48, 55, 62, 69, 76, 83, 90, 97] : List Addr).length ≤ i from h)] at e2
        cases e2
    match i, hi, e with
    | 0, _, e => cases e; exact ⟨(key _).trans (by kernel_rfl), _, _, fr_at K 21 rfl, rfl⟩
    | 1, _, e => cases e; exact ⟨(key _).trans (by kernel_rfl), _, _, fr_at K 30 rfl, rfl⟩
    | 2, _, e => cases e; exact ⟨(key _).trans (by kernel_rfl), _, _, fr_at K 39 rfl, rfl⟩
    | 3, _, e => cases e; exact ⟨(key _).trans (by kernel_rfl), _, _, fr_at K 48 rfl, rfl⟩
    | 4, _, e => cases e; exact ⟨(key _).trans (by kernel_rfl), _, _, fr_at K 55 rfl, rfl⟩
    | 5, _, e => cases e; exact ⟨(key _).trans (by kernel_rfl), _, _, fr_at K 62 rfl, rfl⟩
    | 6, _, e => cases e; exact ⟨(key _).trans (by kernel_rfl), _, _, fr_at K 69 rfl, rfl⟩
    | 7, _, e => cases e; exact ⟨(key _).trans (by kernel_rfl), _, _, fr_at K 76 rfl, rfl⟩
    | 8, _, e => cases e; exact ⟨(key _).trans (by kernel_rfl), _, _, fr_at K 83 rfl, rfl⟩
    | 9, _, e => cases e; exact ⟨(key _).trans (by kernel_rfl), _, _, fr_at K 90 rfl, rfl⟩
    | 10, _, e => cases e; exact ⟨(key _).trans (by kernel_rfl), _, _, fr_at K 97 rfl, rfl⟩
  fns := by
    intro i hi
    match i, hi with
    | 0, _ => exact ⟨_, rfl⟩
    | 1, _ => exact ⟨_, rfl⟩
    | 2, _ => exact ⟨_, rfl⟩
    | 3, _ => exact ⟨_, rfl⟩
    | 4, _ => exact ⟨_, rfl⟩
    | 5, _ => exact ⟨_, rfl⟩
    | 6, _ => exact ⟨_, rfl⟩
    | 7, _ => exact ⟨_, rfl⟩
    | 8, _ => exact ⟨_, rfl⟩
    | 9, _ => exact ⟨_, rfl⟩
    | 10, _ => exact ⟨_, rfl⟩
  bi := by
    intro n
    have key := key_at K hg
    cases n <;> exact ⟨(key _).trans (by kernel_rfl), (hbi _ (by decide +kernel)).trans (by decide +kernel)⟩
  ext := by
    intro j o e
    have empty : ∀ a : Addr, G.get? a = some { cls := .type "dict", data := .dict #[] } → OR w ⟨[21, 30, 39, 48, 55, 62, 69, 76, 83, 90, 97], [lst, 22, 31, 40]⟩ [] 0 (.dict true 0 []) { cls := .type "dict", data := .dict #[] } :=
      fun a _ => ⟨#[], rfl, trivial, by simp, by simp⟩
    match j, e with
    | 0, e =>
      cases e
      obtain ⟨⟨cl, d, da, sl⟩, ho, rfl, n, rfl⟩ := hl
      refine ⟨lst, _, rfl, ho, ⟨_, n, d, sl, rfl, ?_, by rw [List.length_map]; unfold LIM; omega⟩, fun z => absurd rfl (z _)⟩
      exact ints_all2 hi
    | 1, e => cases e; exact ⟨22, _, rfl, fr_at K 22 rfl, empty 22 (fr_at K 22 rfl), fun _ => by decide⟩
    | 2, e => cases e; exact ⟨31, _, rfl, fr_at K 31 rfl, empty 31 (fr_at K 31 rfl), fun _ => by decide⟩
    | 3, e => cases e; exact ⟨40, _, rfl, fr_at K 40 rfl, empty 40 (fr_at K 40 rfl), fun _ => by decide⟩
    | j + 4, e => exact absurd e (by intro z; cases z)
end
end Mine

end

section
open PySem PySem.Calls PyProof.Rows PySem.W
set_option maxRecDepth 100000
set_option maxHeartbeats 8000000
namespace Mine

theorem law_walk {w : World} {prog : Program} {G : Heap} {lst : Addr} {xs : List Int} {mg mb : Str → Option Value} {vals : List Value} {sc : Scope} {env : Env} {A : Around} {s : Shared} {Q : Flow → Shared → Prop} {E : Value → Shared → Prop} {n d : Nat} {m' : M} {h' : Hp} {m : Str → Option Value}
    (K : (hd1.heap_39 w.params).In G) (hn : G.NoLimit) (hg : G.Ns mainGlobals mg) (hb : G.Ns builtinsNs mb) (hbi : ∀ x : Str, x ≠ "__name__" → mb x = bootBuiltins x) (hl : G.IsList lst vals.toArray) (hi : IntsAre vals xs) (hx : xs.length ≤ 63)
    (F : Fr G G.objs.size s.heap m) (hm : m = fun x => List.lookup x [(Str.ofString "script", Value.ref lst)]) (ht : 0 < s.toks)
    (hok : b_law.ok nm_law sc = true) (V₀ : EnvOk (cx w G lst xs mg mb prog) nm_law sc env G.objs.size) (hA : AOk A d)
    (hs : (Mi funs (X0 xs) n d).ex b_law [some (.ext 0), none, none, none] [] = some (.ret (.bool true), m', h'))
    (k : ∀ H' T', (∀ b o, G.get? b = some o → H'.get? b = some o) → Q (.ret (.bool true)) { s with heap := H', toks := T' }) :
    wpAny (model prog w) A (execs (b_law.back nm_law) env) Q E s := by
  have ok0 : (cx w G lst xs mg mb prog).Ok := cx_ok K hn hg hb hbi hl hi hx
  have hnone : G.get? G.objs.size = none := by
    cases e : G.get? G.objs.size with
    | none => rfl
    | some o => exact absurd (Heap.lt_size e) (Nat.lt_irrefl _)
  have gd : Gd w (cx w G lst xs mg mb prog).L G [] s.toks [] s.heap :=
    ⟨rfl, List.nodup_nil, (fun k o a e => by cases e), F.keep, (fun a h => by cases h), ht, ⟨_, fr_at K 3 rfl⟩, (fun a h => by cases h)⟩
  have fm : Frm (cx w G lst xs mg mb prog).L G nm_law [] s.toks [some (.ext 0), none, none, none] G.objs.size s.heap := by
    subst hm
    exact ⟨⟨_, F.ns, ⟨_, rfl, lst, rfl, rfl⟩, rfl, rfl, rfl, trivial⟩, (fun h => by cases h), hnone⟩
  refine (snd ok0 (fns_ok K) n d).ex b_law nm_law sc env G.objs.size A _ m' [] h' _ hok V₀ hA hs s [] Q E gd fm fun x β' H' T' t x1 g1 f1 r => ?_
  obtain ⟨y, rfl, r⟩ := r
  have hy : y = .bool true := r
  subst hy
  exact k H' T' g1.base

theorem aok {env : Env} : AOk (callerA.deeper env) 20 :=
  ⟨rfl, by show 1 + claimMargin + 1 + 20 < recursionLimit; decide +kernel, by show 4 + 3 + 3 * 20 + 100 < cLine; decide +kernel⟩

theorem law_top (plain : ∀ xs : List Int, xs.length ≤ 63 → ∃ n m' h', (Mi funs (X0 xs) n 20).ex b_law [some (.ext 0), none, none, none] [] = some (.ret (.bool true), m', h')) : PySem.Challenge.rw_at0008_01.Holds := hd1 (by
  k_go0
  rename_i w s₀ s₁ mg mb G Y fa o pm doc kV ho hg KX XX VV GL T B TE TW ad1 oo MM a6 a7 hcd xs hs hlay0 hL1 hr1 hl2 p4 p3 lst vals p5 hL ra w1 r0 hI hr hc1 hc2 K0 hD h1 F N0
  clear hcd hD
  have hx : xs.length ≤ 63 := by omega
  obtain ⟨n, m', h', e⟩ := plain xs hx
  refine law_walk (G := s₁.heap) (sc := (fdOf w.params 97).scope) (m := _) KX T.nolimit T.g T.b T.builtins hL hI hx F rfl (Nat.succ_pos _) (by kernel_rfl) ⟨rfl, rfl, rfl, rfl, rfl, rfl, by decide +kernel⟩ aok e fun H' T' hk => ?_
  refine ⟨.inl ⟨_, _, _, rfl, raisesW_false ?_, .bool true, ?_, unshared_nil⟩, hk, rfl, hg⟩
  · wrow_none_raised
  · wrow_post)
end Mine

end

open PySem PySem.W PyProof.Rows
set_option maxRecDepth 100000 in
set_option maxHeartbeats 8000000 in
theorem PySem.Challenge.cw_at0008_01_holds : PySem.Challenge.rw_at0008_01.Holds := by
  exact Mine.law_top Mine.law_true
