import PyProof.Rows.All
import Wide.All
import OpenK.AllK
import Wide.FinOn
import PySem.Challenge.RW_at0008_02
set_option Elab.async false
set_option autoImplicit false
set_option linter.unusedVariables false
set_option linter.unusedSimpArgs false
set_option genInjectivity false
set_option genSizeOfSpec false

section
open PySem
namespace Mine
set_option genInjectivity false
set_option genSizeOfSpec false

/-- constants of the small language -/
inductive C0 where
  | none
  | bool (b : Bool)
  | int (i : Int)
  | str (s : String)

/-- a written text's signs -/
noncomputable def lit (s : String) : List Nat := (Str.ofString s).cps.toList

/-- the built-in functions that the texts call -/
inductive Bi where
  | len | abs | range | isinstance | strT
noncomputable def Bi.name : Bi → String
  | .len => "len" | .abs => "abs" | .range => "range" | .isinstance => "isinstance" | .strT => "str"
/-- the methods that the texts call -/
inductive Mt where
  | replace | find | count
noncomputable def Mt.name : Mt → String
  | .replace => "replace" | .find => "find" | .count => "count"

mutual
/-- expressions of the small language: what the law's text uses -/
inductive ME where
  | loc (i : Nat) (p : Pos)
  | glob (g : Nat) (p : Pos)
  | cst (c : C0) (p : Pos)
  | bin (op : Operator) (l r : ME) (p : Pos)
  | cmp (op : CmpOp) (l r : ME) (p : Pos)
  | and2 (l r : ME) (p : Pos)
  | or2 (l r : ME) (p : Pos)
  | isStr (e : ME) (np tp p : Pos)
  | not (e : ME) (p : Pos)
  | neg (e : ME) (p : Pos)
  | ite (t b o : ME) (p : Pos)
  | idx (e i : ME) (p : Pos)
  | slice (e : ME) (lo hi : MO) (sp p : Pos)
  | call (f : ME) (as : MEs) (p : Pos)
  | bcall (n : Bi) (np : Pos) (as : MEs) (p : Pos)
  | meth (n : Mt) (self : ME) (ap : Pos) (as : MEs) (p : Pos)
  | list (es : MEs) (p : Pos)
  | tup (es : MEs) (p : Pos)
  | dict (sp : MO) (ks vs : MEs) (p : Pos)
inductive MEs where
  | nil
  | cons (e : ME) (r : MEs)
inductive MO where
  | no
  | yes (e : ME)
end

mutual
inductive MS where
  | asg (i : Nat) (tp : Pos) (e : ME) (p : Pos)
  | asg2 (i j : Nat) (tpi tpj tp : Pos) (a b : ME) (vp p : Pos)
  | sets (o i : ME) (tp : Pos) (e : ME) (p : Pos)
  | ite (t : ME) (b o : MSs) (p : Pos)
  | while (t : ME) (b : MSs) (p : Pos)
  | for1 (x : Nat) (xp : Pos) (it : ME) (b : MSs) (p : Pos)
  | rep (s k v d : Nat) (kp vp tp dp ap cp tp2 sp mp k2 v2 rp ap2 p : Pos)
  | ret (e : ME) (p : Pos)
  | app (o e : ME) (ap cp p : Pos)
  | unp3 (i j k : Nat) (pi pj pk tp : Pos) (e : ME) (p : Pos)
  | for2 (x y : Nat) (xp yp tp : Pos) (it : ME) (b : MSs) (p : Pos)
inductive MSs where
  | nil
  | cons (s : MS) (r : MSs)
end

noncomputable def C0.back : C0 → Const
  | .none => .none
  | .bool b => .bool b
  | .int i => .int i
  | .str s => .str (Str.ofString s)

/-- what the small language's program says of the names -/
structure Nm where
  slots : List Str
  globs : List Str

mutual
noncomputable def ME.back (N : Nm) : ME → Expr
  | .loc i p => .Name (N.slots.getD i default) p
  | .glob g p => .Name (N.globs.getD g default) p
  | .cst c p => .Constant c.back 0 p
  | .bin op l r p => .BinOp (l.back N) op (r.back N) p
  | .cmp op l r p => .Compare (l.back N) [op] [r.back N] p
  | .and2 l r p => .BoolOp .And [l.back N, r.back N] p
  | .or2 l r p => .BoolOp .Or [l.back N, r.back N] p
  | .isStr e np tp p => .Call (.Name (Str.ofString Bi.isinstance.name) np) [e.back N, .Name (Str.ofString Bi.strT.name) tp] [] p
  | .not e p => .UnaryOp .Not (e.back N) p
  | .neg e p => .UnaryOp .USub (e.back N) p
  | .ite t b o p => .IfExp (t.back N) (b.back N) (o.back N) p
  | .idx e i p => .Subscript (e.back N) (i.back N) p
  | .slice e lo hi sp p => .Subscript (e.back N) (.Slice (lo.back N) (hi.back N) none sp) p
  | .call f as p => .Call (f.back N) (as.back N) [] p
  | .bcall n np as p => .Call (.Name (Str.ofString n.name) np) (as.back N) [] p
  | .meth n self ap as p => .Call (.Attribute (self.back N) (Str.ofString n.name) ap) (as.back N) [] p
  | .list es p => .List (es.back N) p
  | .tup es p => .Tuple (es.back N) 0 p
  | .dict sp ks vs p => match sp with
    | .no => .Dict (ks.backSome N) (vs.back N) p
    | .yes sp => .Dict (none :: ks.backSome N) (sp.back N :: vs.back N) p
noncomputable def MO.back (N : Nm) : MO → Option Expr
  | .no => none
  | .yes e => some (e.back N)
noncomputable def MEs.back (N : Nm) : MEs → List Expr
  | .nil => []
  | .cons e r => e.back N :: r.back N
noncomputable def MEs.backSome (N : Nm) : MEs → List (Option Expr)
  | .nil => []
  | .cons e r => some (e.back N) :: r.backSome N
end

noncomputable def C0.strOf : C0 → Option String
  | .str s => some s
  | _ => .none
noncomputable def ME.cstOf : ME → Option C0
  | .cst c _ => some c
  | _ => .none
noncomputable def ME.strOf (e : ME) : Option String := e.cstOf.bind C0.strOf
noncomputable def MEs.two : MEs → Option (ME × MEs)
  | .cons a r => some (a, r)
  | .nil => .none
/-- the two arguments of a replace have tokens of their own: written texts -/
noncomputable def repArgs (as : MEs) : Bool :=
  match as.two with
  | some (a, r) => a.strOf.isSome && (match r.two with
    | some (b, r) => b.strOf.isSome && r.two.isNone
    | .none => false)
  | .none => false
noncomputable def MEs.len : MEs → Nat
  | .nil => 0
  | .cons _ r => r.len + 1
noncomputable def C0.short : C0 → Bool
  | .str x => decide ((lit x).length ≤ 1000)
  | _ => true
noncomputable def MEs.short : MEs → Bool
  | .nil => true
  | .cons e r => (match e.cstOf with | some c => c.short | .none => true) && r.short
noncomputable def ME.notCall : ME → Bool
  | .isStr _ _ _ _ => false
  | .call _ _ _ => false
  | .bcall _ _ _ _ => false
  | .meth _ _ _ _ _ => false
  | _ => true
noncomputable def ME.isName : ME → Bool
  | .loc _ _ => true
  | .glob _ _ => true
  | _ => false
noncomputable def MEs.keys : MEs → List (List Nat)
  | .nil => []
  | .cons e r => match e.strOf with
    | some k => lit k :: r.keys
    | .none => []
/-! what the text's shape must be, by itself -/
mutual
noncomputable def ME.ok (N : Nm) (sc : Scope) : ME → Bool
  | .loc i _ => decide (i < N.slots.length) && (sc.names.lookup (N.slots.getD i default) == some .local) && !(N.slots.getD i default == ("__debug__" : Str))
  | .glob g _ => decide (g < N.globs.length) && (sc.names.lookup (N.globs.getD g default) == some .globalImplicit) && !(N.globs.getD g default == ("__debug__" : Str))
  | .cst c _ => c.short
  | .bin _ l r _ => l.ok N sc && r.ok N sc
  | .cmp _ l r _ => l.ok N sc && r.ok N sc
  | .and2 l r _ => l.ok N sc && r.ok N sc
  | .or2 l r _ => l.ok N sc && r.ok N sc
  | .isStr e _ _ _ => e.ok N sc && (sc.names.lookup (Str.ofString Bi.isinstance.name) == some .globalImplicit) && (sc.names.lookup (Str.ofString Bi.strT.name) == some .globalImplicit)
  | .not e _ => e.ok N sc
  | .neg e _ => e.ok N sc
  | .ite t b o _ => t.ok N sc && b.ok N sc && o.ok N sc
  | .idx e i _ => e.ok N sc && i.ok N sc
  | .slice e lo hi _ _ => e.ok N sc && lo.ok N sc && hi.ok N sc
  | .call f as _ => f.ok N sc && as.ok N sc && f.isName
  | .bcall n _ as _ => (sc.names.lookup (Str.ofString n.name) == some .globalImplicit) && as.ok N sc
  | .meth n self ap as p => self.ok N sc && as.ok N sc && (ap.endLine == p.line) && (match n with | .replace => repArgs as | _ => true) && decide (as.len < 30) && self.notCall
  | .list es _ => es.ok N sc && decide (es.len ≤ 64)
  | .tup es _ => es.ok N sc && decide (es.len ≤ 64)
  | .dict sp ks vs _ => sp.ok N sc && ks.short && vs.short && decide (ks.len ≤ 15) && decide ((ks.keys).Nodup) && (match sp with | .no => true | .yes _ => decide (1 ≤ ks.len))
noncomputable def MEs.ok (N : Nm) (sc : Scope) : MEs → Bool
  | .nil => true
  | .cons e r => e.ok N sc && r.ok N sc
noncomputable def MO.ok (N : Nm) (sc : Scope) : MO → Bool
  | .no => true
  | .yes e => e.ok N sc
end

mutual
noncomputable def MS.back (N : Nm) : MS → Stmt
  | .asg i tp e p => .Assign [.Name (N.slots.getD i default) tp] (e.back N) p
  | .asg2 i j tpi tpj tp a b vp p => .Assign [.Tuple [.Name (N.slots.getD i default) tpi, .Name (N.slots.getD j default) tpj] 0 tp] (.Tuple [a.back N, b.back N] 0 vp) p
  | .sets o i tp e p => .Assign [.Subscript (o.back N) (i.back N) tp] (e.back N) p
  | .ite t b o p => .If (t.back N) (b.back N) (o.back N) p
  | .while t b p => .While (t.back N) (b.back N) [] p
  | .for1 x xp it b p => .For (.Name (N.slots.getD x default) xp) (it.back N) (b.back N) [] p
  | .rep s k v d kp vp tp dp ap cp tp2 sp mp k2 v2 rp ap2 p => .For (.Tuple [.Name (N.slots.getD k default) kp, .Name (N.slots.getD v default) vp] 0 tp) (.Call (.Attribute (.Name (N.slots.getD d default) dp) (Str.ofString "items") ap) [] [] cp)
      [.Assign [.Name (N.slots.getD s default) tp2] (.Call (.Attribute (.Name (N.slots.getD s default) sp) (Str.ofString "replace") mp) [.Name (N.slots.getD k default) k2, .Name (N.slots.getD v default) v2] [] rp) ap2] [] p
  | .ret e p => .Return (some (e.back N)) p
  | .app o e ap cp p => .Expr (.Call (.Attribute (o.back N) (Str.ofString "append") ap) [e.back N] [] cp) p
  | .unp3 i j k pi pj pk tp e p => .Assign [.Tuple [.Name (N.slots.getD i default) pi, .Name (N.slots.getD j default) pj, .Name (N.slots.getD k default) pk] 0 tp] (e.back N) p
  | .for2 x y xp yp tp it b p => .For (.Tuple [.Name (N.slots.getD x default) xp, .Name (N.slots.getD y default) yp] 0 tp) (it.back N) (b.back N) [] p
noncomputable def MSs.back (N : Nm) : MSs → List Stmt
  | .nil => []
  | .cons s r => s.back N :: r.back N
end

noncomputable def okSlot (N : Nm) (sc : Scope) (i : Nat) : Bool := decide (i < N.slots.length) && (sc.names.lookup (N.slots.getD i default) == some .local)
noncomputable def okIt1 (N : Nm) (sc : Scope) : ME → Bool
  | .bcall .range _ (.cons e .nil) _ => (sc.names.lookup (Str.ofString Bi.range.name) == some .globalImplicit) && e.ok N sc
  | e => e.ok N sc
mutual
noncomputable def MS.ok (N : Nm) (sc : Scope) : MS → Bool
  | .asg i _ e _ => okSlot N sc i && e.ok N sc
  | .asg2 i j tpi tpj _ a b _ _ => okSlot N sc i && okSlot N sc j && !(N.slots.getD i default == N.slots.getD j default) && (tpi.line == tpj.line) && a.ok N sc && b.ok N sc &&
    ((foldedForSure 8 (a.back N) && foldedForSure 8 (b.back N)) || !(constantsAlone 8 (a.back N) && constantsAlone 8 (b.back N)))
  | .sets o i _ e _ => o.ok N sc && i.ok N sc && e.ok N sc
  | .ite t b o _ => t.ok N sc && b.ok N sc && o.ok N sc
  | .while t b _ => t.ok N sc && b.ok N sc
  | .for1 x _ it b _ => okSlot N sc x && okIt1 N sc it && b.ok N sc
  | .rep si ki vi di _ _ _ _ ap cp _ _ mp _ _ rp _ _ => okSlot N sc si && okSlot N sc ki && okSlot N sc vi && okSlot N sc di && decide (ki ≠ vi) && decide (si ≠ ki) && decide (si ≠ vi) && (ap.endLine == cp.line) && (mp.endLine == rp.line) &&
    !([si, ki, vi, di].any fun i => N.slots.getD i default == ("__debug__" : Str))
  | .ret e _ => e.ok N sc
  | .app o e ap cp _ => o.ok N sc && e.ok N sc && (ap.endLine == cp.line) && o.isName
  | .unp3 i j k _ _ _ _ e _ => okSlot N sc i && okSlot N sc j && okSlot N sc k && e.ok N sc && e.isName
  | .for2 x y _ _ _ it b _ => okSlot N sc x && okSlot N sc y && okIt1 N sc it && b.ok N sc
noncomputable def MSs.ok (N : Nm) (sc : Scope) : MSs → Bool
  | .nil => true
  | .cons s r => s.ok N sc && r.ok N sc
end

/-! the small machine -/
inductive V where
  | none
  | bool (b : Bool)
  | int (i : Int)
  | str (l : List Nat)
  | ref (k : Nat)
  | ext (j : Nat)
  | fn (g : Nat)
  deriving DecidableEq
inductive O where
  | list (vs : List V)
  | tup (vs : List V)
  | dict (rep : Bool) (ep : Nat) (es : List (List Nat × V))
  deriving DecidableEq
abbrev M := List (Option V)
abbrev Hp := List O

noncomputable def C0.val : C0 → V
  | .none => .none
  | .bool b => .bool b
  | .int i => .int i
  | .str s => .str (lit s)

noncomputable def obj (X h : Hp) : V → Option O
  | .ref k => h[k]?
  | .ext j => X[j]?
  | _ => .none
noncomputable def O.full : O → Option Bool
  | .list vs => some (!vs.isEmpty)
  | .tup _ => .none
  | .dict _ _ es => some (!es.isEmpty)
noncomputable def truth (X h : Hp) : V → Option Bool
  | .none => some false
  | .bool b => some b
  | .int i => some (decide (i ≠ 0))
  | .str l => some (!l.isEmpty)
  | .ref k => (obj X h (.ref k)).bind O.full
  | .ext j => (obj X h (.ext j)).bind O.full
  | .fn _ => .none

noncomputable def LIM : Nat := 16777216
noncomputable def binI (op : Operator) (x y : Int) : Option V :=
  match op with
  | .Add => some (.int (x + y))
  | .Sub => some (.int (x - y))
  | .Mult => if x.natAbs ≤ LIM then some (.int (x * y)) else .none
  | .FloorDiv => if y = 0 then .none else if y.natAbs ≤ LIM then some (.int (x.fdiv y)) else .none
  | .Mod => if y = 0 then .none else some (.int (x.fmod y))
  | _ => .none
noncomputable def binS (op : Operator) (x y : List Nat) : Option V :=
  match op with
  | .Add => if x.length + y.length ≤ LIM then some (.str (x ++ y)) else .none
  | .Mod => if y.length ≤ 10000000 then (if x = lit "\"%s\"" then some (.str (34 :: (y ++ [34]))) else if x = lit "'%s'" then some (.str (39 :: (y ++ [39]))) else .none) else .none
  | _ => .none
noncomputable def binop (op : Operator) (a b : V) : Option V :=
  match a with
  | .int x => (match b with
    | .int y => binI op x y
    | _ => .none)
  | .str x => (match b with
    | .str y => binS op x y
    | _ => .none)
  | _ => .none

/-- y stands in x -/
noncomputable def inStr (y : List Nat) : List Nat → Bool
  | [] => y.isEmpty
  | c :: r => y.isPrefixOf (c :: r) || inStr y r
noncomputable def keyIn (k : List Nat) (es : List (List Nat × V)) : Option V := (es.find? fun e => e.1 == k).map (·.2)

noncomputable def cmpI (op : CmpOp) (x y : Int) : Option Bool :=
  match op with
  | .Eq => some (decide (x = y))
  | .NotEq => some (!decide (x = y))
  | .Lt => some (decide (x < y))
  | .LtE => some (decide (x ≤ y))
  | .Gt => some (decide (y < x))
  | .GtE => some (decide (y ≤ x))
  | _ => .none
noncomputable def cmpS (op : CmpOp) (x y : List Nat) : Option Bool :=
  match op with
  | .Eq => some (decide (x = y))
  | .NotEq => some (!decide (x = y))
  | .In => some (inStr x y)
  | .NotIn => some (!inStr x y)
  | _ => .none
noncomputable def alike (f : V → V → Bool) : List V → List V → Bool
  | [], [] => true
  | x :: xs, y :: ys => f x y && alike f xs ys
  | _, _ => false
/-- two objects that are surely equal -/
noncomputable def deq (X h : Hp) : Nat → V → V → Bool
  | 0, _, _ => false
  | n + 1, a, b => match obj X h a with
    | some (.list xs) => (match obj X h b with
      | some (.list ys) => alike (deq X h n) xs ys
      | _ => false)
    | some (.tup xs) => (match obj X h b with
      | some (.tup ys) => alike (deq X h n) xs ys
      | _ => false)
    | some _ => false
    | .none => (match a with
      | .str x => (match b with
        | .str y => decide (x = y)
        | _ => false)
      | _ => false)
noncomputable def cmpop (X h : Hp) (op : CmpOp) (a b : V) : Option Bool :=
  match a with
  | .int x => (match b with
    | .int y => cmpI op x y
    | _ => .none)
  | .str x => (match b with
    | .str y => cmpS op x y
    | _ => .none)
  | .ref k => (match op with
    | .Eq => if deq X h 60 (.ref k) b then some true else .none
    | _ => .none)
  | _ => .none

noncomputable def nidx (i : Int) (n : Nat) : Option Nat :=
  if 0 ≤ i then (if i.toNat < n then some i.toNat else .none) else if 0 ≤ i + n then some (i + n).toNat else .none
noncomputable def idxo : O → Int → Option V
  | .list vs, i => (nidx i vs.length).bind fun j => vs[j]?
  | .tup vs, i => (nidx i vs.length).bind fun j => vs[j]?
  | .dict _ _ _, _ => .none
noncomputable def idxv (X h : Hp) (a i : V) : Option V :=
  match i with
  | .int i => (match a with
    | .str l => ((nidx i l.length).bind fun j => l[j]?).map fun c => .str [c]
    | v => (obj X h v).bind fun o => idxo o i)
  | _ => .none
noncomputable def clamp (i : Int) (n : Nat) : Nat := if i < 0 then (i + n).toNat else min i.toNat n
noncomputable def slc (l : List Nat) (lo hi : Option Int) : List Nat :=
  (l.take ((hi.map fun i => clamp i l.length).getD l.length)).drop ((lo.map fun i => clamp i l.length).getD 0)

/-- every place where y stands, from the left, is put as z; y is not empty -/
noncomputable def repl (y z : List Nat) : Nat → List Nat → List Nat
  | 0, l => l
  | _ + 1, [] => []
  | n + 1, c :: r => if y.isPrefixOf (c :: r) then z ++ repl y z n ((c :: r).drop y.length) else c :: repl y z n r
noncomputable def replace (y z l : List Nat) : List Nat := repl y z l.length l

inductive Fl where
  | next | brk | cont
  | ret (v : V)

structure Sm where
  ev : ME → M → Hp → Option (V × Hp)
  ex : MSs → M → Hp → Option (Fl × M × Hp)
  cl : Nat → List V → Hp → Option (V × Hp)
  fu : Nat

structure Fn where
  np : Nat
  nslots : Nat
  body : MSs
  dflt : Option Nat

noncomputable def evs (S : Sm) : MEs → M → Hp → Option (List V × Hp)
  | .nil, _, h => some ([], h)
  | .cons e r, m, h => (S.ev e m h).bind fun (v, h) => (evs S r m h).bind fun (vs, h) => some (v :: vs, h)
noncomputable def evO (S : Sm) : MO → M → Hp → Option (Option Int × Hp)
  | .no, _, h => some (.none, h)
  | .yes e, m, h => (S.ev e m h).bind fun (v, h) => match v with
    | .int i => some (some i, h)
    | _ => .none
/-- a written display's pairs: constants alone -/
noncomputable def pairs : MEs → MEs → Option (List (List Nat × V))
  | .nil, vs => (match vs.two with | .none => some [] | some _ => .none)
  | .cons k ks, vs => vs.two.bind fun q => k.strOf.bind fun s => q.1.cstOf.bind fun c => (pairs ks q.2).map fun r => (lit s, c.val) :: r
noncomputable def lenv (X h : Hp) : V → Option Int
  | .str l => some l.length
  | v => (obj X h v).bind fun o => match o with
    | .list xs => some xs.length
    | _ => .none
noncomputable def bcall (X : Hp) (n : Bi) (vs : List V) (h : Hp) : Option (V × Hp) :=
  match vs with
  | [v] => (match n with
    | .len => (lenv X h v).map fun i => (.int i, h)
    | .abs => (match v with
      | .int i => some (.int i.natAbs, h)
      | _ => .none)
    | _ => .none)
  | _ => .none

/-- the first place of c -/
noncomputable def fst1 (c : Nat) : List Nat → Option Nat
  | [] => .none
  | x :: r => if x = c then some 0 else (fst1 c r).map (· + 1)
noncomputable def mRep (l : List Nat) (h : Hp) : List V → Option (V × Hp)
  | [.str y, .str z] => if y ≠ [] ∧ l.length + (l.length + 1) * z.length ≤ LIM then some (V.str (replace y z l), h) else .none
  | _ => .none
noncomputable def mFind (l : List Nat) (h : Hp) : List V → Option (V × Hp)
  | [.str [c], .int i] => if 0 ≤ i ∧ i ≤ l.length then some (V.int (match fst1 c (l.drop i.toNat) with | some k => i + k | .none => -1), h) else .none
  | _ => .none
noncomputable def mCount (l : List Nat) (h : Hp) : List V → Option (V × Hp)
  | [.str [c]] => some (V.int ((l.filter (· == c)).length : Nat), h)
  | _ => .none
noncomputable def meth (X : Hp) (n : Mt) (a : V) (vs : List V) (h : Hp) : Option (V × Hp) :=
  match a with
  | .str l => (match n with
    | .replace => mRep l h vs
    | .find => mFind l h vs
    | .count => mCount l h vs)
  | _ => .none

noncomputable def stepE (X : Hp) (S : Sm) (e : ME) (m : M) (h : Hp) : Option (V × Hp) :=
  match e with
  | .loc i _ => (m.getD i .none).map fun v => (v, h)
  | .glob g _ => some (.fn g, h)
  | .cst c _ => some (c.val, h)
  | .bin op l r _ => (S.ev l m h).bind fun (a, h) => (S.ev r m h).bind fun (b, h) => (binop op a b).map fun v => (v, h)
  | .cmp op l r _ => (S.ev l m h).bind fun (a, h) => (S.ev r m h).bind fun (b, h) => (cmpop X h op a b).map fun c => (.bool c, h)
  | .and2 l r _ => (S.ev l m h).bind fun (a, h) => (truth X h a).bind fun t => if t then S.ev r m h else some (a, h)
  | .or2 l r _ => (S.ev l m h).bind fun (a, h) => (truth X h a).bind fun t => if t then some (a, h) else S.ev r m h
  | .isStr e _ _ _ => (S.ev e m h).bind fun (a, h) => match a with
    | .str _ => some (.bool true, h)
    | v => (obj X h v).bind fun o => match o with
      | .tup _ => some (.bool false, h)
      | _ => .none
  | .not e _ => (S.ev e m h).bind fun (a, h) => (truth X h a).map fun t => (.bool (!t), h)
  | .neg e _ => (S.ev e m h).bind fun (a, h) => match a with
    | .int i => some (.int (-i), h)
    | _ => .none
  | .ite t b o _ => (S.ev t m h).bind fun (a, h) => (truth X h a).bind fun t => if t then S.ev b m h else S.ev o m h
  | .idx e i _ => (S.ev e m h).bind fun (a, h) => (S.ev i m h).bind fun (b, h) => (idxv X h a b).map fun v => (v, h)
  | .slice e lo hi _ _ => (S.ev e m h).bind fun (a, h) => (evO S lo m h).bind fun (l, h) => (evO S hi m h).bind fun (u, h) => match a with
    | .str x => some (.str (slc x l u), h)
    | _ => .none
  | .call f as _ => (S.ev f m h).bind fun (f, h) => (evs S as m h).bind fun (vs, h) => match f with
    | .fn g => S.cl g vs h
    | _ => .none
  | .bcall n _ as _ => (evs S as m h).bind fun (vs, h) => bcall X n vs h
  | .meth n self _ as _ => (S.ev self m h).bind fun (a, h) => (evs S as m h).bind fun (vs, h) => meth X n a vs h
  | .list es _ => (evs S es m h).bind fun (vs, h) => some (.ref h.length, h ++ [.list vs])
  | .tup es _ => (evs S es m h).bind fun (vs, h) => some (.ref h.length, h ++ [.tup vs])
  | .dict .no ks vs _ => (pairs ks vs).bind fun es => some (.ref h.length, h ++ [.dict true es.length es])
  | .dict (.yes e) ks vs _ => (S.ev e m h).bind fun (a, h) => match obj X h a with
    | some (.dict rep _ es) => (pairs ks vs).bind fun more => if es.length ≤ 1000 ∧ (more.all fun p => (keyIn p.1 es).isNone) = true then some (.ref h.length, h ++ [.dict rep (es.length + more.length) (es ++ more)]) else .none
    | _ => .none

/-- for k, v in d.items(): s = s.replace(k, v) -/
noncomputable def reps (si ki vi : Nat) : List (List Nat × V) → M → Option M
  | [], m => some m
  | (k, .str v) :: r, m => (match m.getD si .none with
    | some (.str l) => if k ≠ [] ∧ l.length + (l.length + 1) * v.length ≤ LIM then reps si ki vi r (((m.set ki (some (.str k))).set vi (some (.str v))).set si (some (.str (replace k v l)))) else .none
    | _ => .none)
  | _, _ => .none

/-- a for loop over items that are read off ahead; st stores an item; at each turn's start chk holds: what is walked is as it was -/
noncomputable def mfor (S : Sm) (chk : Hp → Bool) (st : V → M → Hp → Option M) (b : MSs) : List V → M → Hp → Option (Fl × M × Hp)
  | [], m, h => if chk h then some (.next, m, h) else .none
  | v :: vs, m, h => if chk h then (st v m h).bind fun m => ((S.ex b m h).bind fun (f, m, h) => match f with
      | .next => mfor S chk st b vs m h
      | .cont => mfor S chk st b vs m h
      | .brk => some (.next, m, h)
      | .ret v => some (.ret v, m, h)) else .none
noncomputable def st1 (x : Nat) (v : V) (m : M) (h : Hp) : Option M := some (m.set x (some v))
noncomputable def st2 (X : Hp) (x y : Nat) (v : V) (m : M) (h : Hp) : Option M :=
  match obj X h v with
  | some (.tup [a, b]) => some ((m.set x (some a)).set y (some b))
  | _ => .none

/-- a while loop, k turns at most -/
noncomputable def mwhile (X : Hp) (S : Sm) (t : ME) (b : MSs) : Nat → M → Hp → Option (Fl × M × Hp)
  | 0, _, _ => .none
  | k + 1, m, h => (S.ev t m h).bind fun (a, h) => (truth X h a).bind fun c => if c then ((S.ex b m h).bind fun (f, m, h) => match f with
      | .next => mwhile X S t b k m h
      | .cont => mwhile X S t b k m h
      | .brk => some (.next, m, h)
      | .ret v => some (.ret v, m, h)) else some (.next, m, h)
noncomputable def iter1 (X : Hp) (S : Sm) (it : ME) (m : M) (h : Hp) : Option (List V × (Hp → Bool) × Hp) :=
  match it with
  | .bcall .range _ (.cons e .nil) _ => (S.ev e m h).bind fun (a, h) => match a with
    | .int n => if n.natAbs ≤ LIM then some ((List.range n.toNat).map fun (i : Nat) => .int (i : Int), fun _ => true, h) else .none
    | _ => .none
  | e => (S.ev e m h).bind fun (a, h) => match a with
    | .ref k => (match h[k]? with
      | some (.list vs) => some (vs, fun h' => decide (h'[k]? = some (.list vs)), h)
      | _ => .none)
    | _ => .none
noncomputable def isL (h : Hp) (r : Nat) : Bool :=
  match h[r]? with
  | some (.list _) => true
  | _ => false
noncomputable def appL (h : Hp) (r : Nat) (v : V) : Option Hp :=
  match h[r]? with
  | some (.list vs) => if vs.length < LIM then some (h.set r (.list (vs ++ [v]))) else .none
  | _ => .none
noncomputable def setL (h : Hp) (r : Nat) (k : Int) (v : V) : Option Hp :=
  match h[r]? with
  | some (.list vs) => (nidx k vs.length).map fun j => h.set r (.list (vs.set j v))
  | _ => .none
noncomputable def stepS (X : Hp) (S : Sm) (s : MS) (m : M) (h : Hp) : Option (Fl × M × Hp) :=
  match s with
  | .asg i _ e _ => (S.ev e m h).bind fun (v, h) => some (.next, m.set i (some v), h)
  | .asg2 i j _ _ _ a b _ _ => (S.ev a m h).bind fun (u, h) => (S.ev b m h).bind fun (v, h) => some (.next, (m.set i (some u)).set j (some v), h)
  | .sets o i _ e _ => (S.ev e m h).bind fun (v, h) => (S.ev o m h).bind fun (a, h) => (S.ev i m h).bind fun (k, h) => match a with
    | .ref r => (match k with
      | .int k => (setL h r k v).map fun h => (.next, m, h)
      | _ => .none)
    | _ => .none
  | .ite t b o _ => (S.ev t m h).bind fun (a, h) => (truth X h a).bind fun t => if t then S.ex b m h else S.ex o m h
  | .while t b _ => mwhile X S t b S.fu m h
  | .for1 x _ it b _ => (iter1 X S it m h).bind fun (vs, chk, h) => mfor S chk (st1 x) b vs m h
  | .for2 x y _ _ _ it b _ => (iter1 X S it m h).bind fun (vs, chk, h) => mfor S chk (st2 X x y) b vs m h
  | .rep si ki vi di .. => (m.getD di .none).bind fun dv => (match obj X h dv with
    | some (.dict true _ es) => (reps si ki vi es m).map fun m => (.next, m, h)
    | _ => .none)
  | .ret e _ => (S.ev e m h).bind fun (v, h) => some (.ret v, m, h)
  | .app o e _ _ _ => (S.ev o m h).bind fun (a, h) => match a with
    | .ref r => if isL h r then (S.ev e m h).bind fun (v, h) => (appL h r v).map fun h => (.next, m, h) else .none
    | _ => .none
  | .unp3 i j k _ _ _ _ e _ => (S.ev e m h).bind fun (v, h) => match obj X h v with
    | some (.tup [a, b, c]) => some (.next, ((m.set i (some a)).set j (some b)).set k (some c), h)
    | _ => .none
noncomputable def stepX (X : Hp) (S : Sm) : MSs → M → Hp → Option (Fl × M × Hp)
  | .nil, m, h => some (.next, m, h)
  | .cons s r, m, h => (stepS X S s m h).bind fun (f, m, h) => match f with
    | .next => S.ex r m h
    | f => some (f, m, h)
noncomputable def stepC (F : List Fn) (S : Sm) (g : Nat) (vs : List V) (h : Hp) : Option (V × Hp) :=
  (F[g]?).bind fun f =>
    (if vs.length = f.np then some vs else match f.dflt with
      | some j => if vs.length + 1 = f.np then some (vs ++ [.ext j]) else .none
      | .none => .none).bind fun vs =>
    (S.ex f.body (vs.map some ++ List.replicate (f.nslots - f.np) .none) h).map fun (f, _, h) => match f with
      | .ret v => (v, h)
      | _ => (.none, h)

/-- n: the steps' depth; d: the calls' depth -/
noncomputable def Mi (F : List Fn) (X : Hp) : Nat → Nat → Sm
  | 0, _ => ⟨fun _ _ _ => .none, fun _ _ _ => .none, fun _ _ _ => .none, 0⟩
  | n + 1, d => ⟨stepE X (Mi F X n d), stepX X (Mi F X n d), (match d with | 0 => fun _ _ _ => .none | d + 1 => stepC F (Mi F X n d)), n⟩

end Mine

end

section
open PySem PySem.Calls PyProof.Rows PySem.W
namespace Mine

/-! the small machine's values and objects as the model bears them -/
noncomputable def All2 {α β : Type} (R : α → β → Prop) : List α → List β → Prop
  | [], [] => True
  | a :: l, b :: r => R a b ∧ All2 R l r
  | _, _ => False
theorem All2.length {α β : Type} {R : α → β → Prop} : ∀ {l : List α} {r : List β}, All2 R l r → l.length = r.length
  | [], [], _ => rfl
  | _ :: _, _ :: _, h => by rw [List.length_cons, List.length_cons, All2.length h.2]
  | [], _ :: _, h => h.elim
  | _ :: _, [], h => h.elim
theorem All2.mono {α β : Type} {R R' : α → β → Prop} (f : ∀ a b, R a b → R' a b) : ∀ {l : List α} {r : List β}, All2 R l r → All2 R' l r
  | [], [], _ => trivial
  | _ :: _, _ :: _, h => ⟨f _ _ h.1, All2.mono f h.2⟩
  | [], _ :: _, h => h.elim
  | _ :: _, [], h => h.elim
theorem All2.cons_inv {α β : Type} {R : α → β → Prop} {a : α} {l : List α} {r : List β} (h : All2 R (a :: l) r) : ∃ b t, r = b :: t ∧ R a b ∧ All2 R l t := by
  cases r with
  | nil => exact h.elim
  | cons b t => exact ⟨b, t, rfl, h.1, h.2⟩
theorem All2.nil_inv {α β : Type} {R : α → β → Prop} {r : List β} (h : All2 R ([] : List α) r) : r = [] := by
  cases r with
  | nil => rfl
  | cons b t => exact h.elim
theorem All2.one {α β : Type} {R : α → β → Prop} {a : α} {r : List β} (h : All2 R [a] r) : ∃ x, r = [x] ∧ R a x := by
  obtain ⟨x, r, rfl, hx, h⟩ := h.cons_inv
  obtain rfl := h.nil_inv
  exact ⟨x, rfl, hx⟩
theorem All2.two {α β : Type} {R : α → β → Prop} {a b : α} {r : List β} (h : All2 R [a, b] r) : ∃ x y, r = [x, y] ∧ R a x ∧ R b y := by
  obtain ⟨x, r, rfl, hx, h⟩ := h.cons_inv
  obtain ⟨y, rfl, hy⟩ := h.one
  exact ⟨x, y, rfl, hx, hy⟩
theorem All2.get {α β : Type} {R : α → β → Prop} : ∀ {l : List α} {r : List β} {i : Nat} {a : α}, All2 R l r → l[i]? = some a → ∃ b, r[i]? = some b ∧ R a b
  | _ :: _, b :: _, 0, a, h, e => ⟨b, rfl, by simp at e; exact e ▸ h.1⟩
  | _ :: l, _ :: r, i + 1, a, h, e => by
    obtain ⟨b, hb, hr⟩ := All2.get (i := i) (a := a) h.2 (by simpa using e)
    exact ⟨b, by simpa using hb, hr⟩
  | [], [], _, _, _, e => by simp at e
  | [], _ :: _, _, _, h, _ => h.elim
  | _ :: _, [], _, _, h, _ => h.elim
theorem All2.append {α β : Type} {R : α → β → Prop} : ∀ {l : List α} {r : List β} {l' : List α} {r' : List β}, All2 R l r → All2 R l' r' → All2 R (l ++ l') (r ++ r')
  | [], [], _, _, _, h => h
  | _ :: _, _ :: _, _, _, h, h' => ⟨h.1, All2.append h.2 h'⟩
  | [], _ :: _, _, _, h, _ => h.elim
  | _ :: _, [], _, _, h, _ => h.elim
theorem All2.set {α β : Type} {R : α → β → Prop} : ∀ {l : List α} {r : List β} {i : Nat} {a : α} {b : β}, All2 R l r → R a b → All2 R (l.set i a) (r.set i b)
  | [], [], _, _, _, _, _ => trivial
  | _ :: _, _ :: _, 0, _, _, h, hr => ⟨hr, h.2⟩
  | _ :: _, _ :: _, i + 1, _, _, h, hr => ⟨h.1, All2.set h.2 hr⟩
  | [], _ :: _, _, _, _, h, _ => h.elim
  | _ :: _, [], _, _, _, h, _ => h.elim

/-- where the model keeps the defs and the objects that stood before -/
structure Pl where
  fa : List Addr
  xa : List Addr

noncomputable def VR (L : Pl) (β : List Addr) (T : Nat) : V → Value → Prop
  | .none, v => v = .none
  | .bool b, v => v = .bool b
  | .int i, v => ∃ t, v = .int i t
  | .str l, v => ∃ t, v = .str ⟨l.toArray⟩ t ∧ 0 < t ∧ t < T ∧ l.length ≤ LIM
  | .ref k, v => ∃ a, β[k]? = some a ∧ v = .ref a
  | .ext j, v => ∃ a, L.xa[j]? = some a ∧ v = .ref a
  | .fn g, v => ∃ a, L.fa[g]? = some a ∧ v = .ref a

noncomputable def ER (w : World) (L : Pl) (β : List Addr) (T : Nat) (rep : Bool) (e : List Nat × V) (d : DictEntry) : Prop :=
  ∃ t, d.key = .str ⟨e.1.toArray⟩ t ∧ d.hash = hashStr w ⟨e.1.toArray⟩ ∧ VR L β T e.2 d.val ∧ 0 < t ∧ t < T ∧ e.1.length ≤ LIM ∧ (rep = true → ∀ x u, d.val = .str x u → u ≠ t)

noncomputable def OR (w : World) (L : Pl) (β : List Addr) (T : Nat) : O → Obj → Prop
  | .list vs, o => ∃ items n d sl, o = ⟨.type "list", d, .seq items n, sl⟩ ∧ All2 (VR L β T) vs items.toList ∧ vs.length ≤ LIM
  | .tup vs, o => ∃ items n d sl, o = ⟨.type "tuple", d, .seq items n, sl⟩ ∧ All2 (VR L β T) vs items.toList ∧ vs.length ≤ LIM
  | .dict rep ep es, o => ∃ ents, o = ⟨.type "dict", none, .dict ents ep, #[]⟩ ∧ All2 (ER w L β T rep) es ents.toList ∧ (es.map (·.1)).Nodup ∧ es.length ≤ LIM

noncomputable def Pre (β β' : List Addr) : Prop := ∃ γ, β' = β ++ γ
theorem Pre.refl (β : List Addr) : Pre β β := ⟨[], by simp⟩
theorem Pre.trans {a b c : List Addr} : Pre a b → Pre b c → Pre a c
  | ⟨x, hx⟩, ⟨y, hy⟩ => ⟨x ++ y, by rw [hy, hx, List.append_assoc]⟩
theorem Pre.get {β β' : List Addr} (h : Pre β β') {k : Nat} {a : Addr} (e : β[k]? = some a) : β'[k]? = some a := by
  obtain ⟨γ, rfl⟩ := h
  have hk : k < β.length := by
    rcases Nat.lt_or_ge k β.length with h | h
    · exact h
    · rw [List.getElem?_eq_none h] at e; cases e
  rw [List.getElem?_append_left hk, e]
theorem Pre.mem {β β' : List Addr} (h : Pre β β') {a : Addr} (e : a ∈ β) : a ∈ β' := by
  obtain ⟨γ, rfl⟩ := h; exact List.mem_append_left _ e

theorem VR.mono {L : Pl} {β β' : List Addr} {T T' : Nat} (hp : Pre β β') (ht : T ≤ T') : ∀ {v : V} {x : Value}, VR L β T v x → VR L β' T' v x
  | .none, _, h => h
  | .bool _, _, h => h
  | .int _, _, h => h
  | .str _, _, ⟨t, e, h0, h1, h2⟩ => ⟨t, e, h0, Nat.lt_of_lt_of_le h1 ht, h2⟩
  | .ref _, _, ⟨a, e, q⟩ => ⟨a, hp.get e, q⟩
  | .ext _, _, h => h
  | .fn _, _, h => h
theorem ER.mono {w : World} {L : Pl} {β β' : List Addr} {T T' : Nat} {rep : Bool} (hp : Pre β β') (ht : T ≤ T') {e : List Nat × V} {d : DictEntry} : ER w L β T rep e d → ER w L β' T' rep e d
  | ⟨t, a, b, c, d0, d1, d2, f⟩ => ⟨t, a, b, c.mono hp ht, d0, Nat.lt_of_lt_of_le d1 ht, d2, f⟩
theorem OR.mono {w : World} {L : Pl} {β β' : List Addr} {T T' : Nat} (hp : Pre β β') (ht : T ≤ T') : ∀ {o : O} {x : Obj}, OR w L β T o x → OR w L β' T' o x
  | .list _, _, ⟨i, n, d, s, e, h, q⟩ => ⟨i, n, d, s, e, h.mono fun _ _ => VR.mono hp ht, q⟩
  | .tup _, _, ⟨i, n, d, s, e, h, q⟩ => ⟨i, n, d, s, e, h.mono fun _ _ => VR.mono hp ht, q⟩
  | .dict _ _ _, _, ⟨i, e, h, n⟩ => ⟨i, e, h.mono fun _ _ => ER.mono hp ht, n⟩

noncomputable def ORd (w : World) (L : Pl) (β : List Addr) (T : Nat) (o : O) (ob : Obj) : Prop := OR w L β T o ob ∧ ob.dict = none
theorem ORd.mono {w : World} {L : Pl} {β β' : List Addr} {T T' : Nat} (hp : Pre β β') (ht : T ≤ T') {o : O} {x : Obj} (r : ORd w L β T o x) : ORd w L β' T' o x := ⟨r.1.mono hp ht, r.2⟩

structure Gd (w : World) (L : Pl) (G : Heap) (β : List Addr) (T : Nat) (h : Hp) (H : Heap) : Prop where
  len : β.length = h.length
  nd : β.Nodup
  objs : ∀ (k : Nat) (o : O) (a : Addr), h[k]? = some o → β[k]? = some a → ∃ ob, H.get? a = some ob ∧ ORd w L β T o ob
  base : ∀ b o, G.get? b = some o → H.get? b = some o
  new : ∀ a ∈ β, G.get? a = none
  pos : 0 < T
  g3 : ∃ o, G.get? 3 = some o
  big : ∀ a ∈ β, (a == sysModules) = false

/-- how a step leaves the rest of the heap -/
structure Ext (β : List Addr) (H : Heap) (β' : List Addr) (H' : Heap) : Prop where
  pre : Pre β β'
  keep : ∀ b o, b ∉ β → H.get? b = some o → H'.get? b = some o ∧ b ∉ β'
theorem Ext.refl (β : List Addr) (H : Heap) : Ext β H β H := ⟨Pre.refl β, fun _ _ n e => ⟨e, n⟩⟩
theorem Ext.trans {a b c : List Addr} {H₁ H₂ H₃ : Heap} (x : Ext a H₁ b H₂) (y : Ext b H₂ c H₃) : Ext a H₁ c H₃ :=
  ⟨x.pre.trans y.pre, fun q o n e => let ⟨e1, n1⟩ := x.keep q o n e; y.keep q o n1 e1⟩

theorem Gd.toks {w : World} {L : Pl} {G : Heap} {β : List Addr} {T T' : Nat} {h : Hp} {H : Heap} (g : Gd w L G β T h H) (ht : T ≤ T') : Gd w L G β T' h H :=
  ⟨g.len, g.nd, fun k o a e1 e2 => let ⟨ob, q, r⟩ := g.objs k o a e1 e2; ⟨ob, q, r.mono (Pre.refl β) ht⟩, g.base, g.new, Nat.lt_of_lt_of_le g.pos ht, g.g3, g.big⟩
/-- a heap that keeps all that stood -/
theorem Gd.grow {w : World} {L : Pl} {G : Heap} {β : List Addr} {T : Nat} {h : Hp} {H H' : Heap} (g : Gd w L G β T h H) (hk : ∀ b o, H.get? b = some o → H'.get? b = some o) : Gd w L G β T h H' :=
  ⟨g.len, g.nd, fun k o a e1 e2 => let ⟨ob, q, r⟩ := g.objs k o a e1 e2; ⟨ob, hk _ _ q, r⟩, fun b o e => hk _ _ (g.base b o e), g.new, g.pos, g.g3, g.big⟩
theorem Ext.grow {β : List Addr} {H H' : Heap} (hk : ∀ b o, H.get? b = some o → H'.get? b = some o) : Ext β H β H' := ⟨Pre.refl β, fun b o n e => ⟨hk b o e, n⟩⟩
theorem get?_push_keep {H : Heap} (o : Obj) : ∀ b x, H.get? b = some x → (H.push o).get? b = some x := fun _ _ e => Heap.get?_push_of_some o e
/-- a heap that differs at one address outside -/
theorem Gd.but {w : World} {L : Pl} {G : Heap} {β : List Addr} {T : Nat} {h : Hp} {H H' : Heap} {c : Addr} (g : Gd w L G β T h H) (hc : c ∉ β) (hG : G.get? c = none) (hk : ∀ b o, b ≠ c → H.get? b = some o → H'.get? b = some o) : Gd w L G β T h H' :=
  ⟨g.len, g.nd, fun k o a e1 e2 => let ⟨ob, q, r⟩ := g.objs k o a e1 e2; ⟨ob, hk _ _ (fun z => hc (z ▸ List.mem_of_getElem? e2)) q, r⟩,
    fun b o e => hk _ _ (fun z => by rw [z, hG] at e; cases e) (g.base b o e), g.new, g.pos, g.g3, g.big⟩

theorem Gd.fresh {w : World} {L : Pl} {G : Heap} {β : List Addr} {T : Nat} {h : Hp} {H : Heap} (g : Gd w L G β T h H) : H.objs.size ∉ β ∧ G.get? H.objs.size = none := by
  constructor
  · intro hm
    obtain ⟨k, hk⟩ := List.getElem?_of_mem hm
    have hlt : k < h.length := by
      rw [← g.len]
      rcases Nat.lt_or_ge k β.length with q | q
      · exact q
      · rw [List.getElem?_eq_none q] at hk; cases hk
    obtain ⟨ob, q, _⟩ := g.objs k h[k] _ (List.getElem?_eq_getElem hlt) hk
    exact absurd (Heap.lt_size q) (Nat.lt_irrefl _)
  · cases e : G.get? H.objs.size with
    | none => rfl
    | some o => exact absurd (Heap.lt_size (g.base _ _ e)) (Nat.lt_irrefl _)

/-- a new object that the small machine sees -/
theorem Gd.alloc {w : World} {L : Pl} {G : Heap} {β : List Addr} {T : Nat} {h : Hp} {H : Heap} (g : Gd w L G β T h H) {o : O} {ob : Obj} (hf : ob.isFreed = false) (ho : ORd w L (β ++ [H.objs.size]) T o ob) :
    Gd w L G (β ++ [H.objs.size]) T (h ++ [o]) (H.push ob) ∧ Ext β H (β ++ [H.objs.size]) (H.push ob) := by
  have hp : Pre β (β ++ [H.objs.size]) := ⟨_, rfl⟩
  refine ⟨⟨by simp [g.len], ?_, ?_, fun b o' e => Heap.get?_push_of_some _ (g.base b o' e), ?_, g.pos, g.g3, ?_⟩, hp, ?_⟩
  · rw [List.nodup_append]
    refine ⟨g.nd, by simp, ?_⟩
    intro a ha b hb
    simp at hb
    subst hb
    intro e
    exact g.fresh.1 (e ▸ ha)
  · intro k o' a e1 e2
    rcases Nat.lt_or_ge k h.length with q | q
    · rw [List.getElem?_append_left q] at e1
      rw [List.getElem?_append_left (by rw [g.len]; exact q)] at e2
      obtain ⟨ob', x, y⟩ := g.objs k o' a e1 e2
      exact ⟨ob', Heap.get?_push_of_some _ x, y.mono hp (Nat.le_refl _)⟩
    · rw [List.getElem?_append_right q] at e1
      rw [List.getElem?_append_right (by rw [g.len]; exact q), g.len] at e2
      have hk : k - h.length = 0 := by
        rcases Nat.eq_zero_or_pos (k - h.length) with z | z
        · exact z
        · rw [List.getElem?_eq_none (by simp; omega)] at e1; cases e1
      rw [hk] at e1 e2
      simp at e1 e2
      subst e1 e2
      exact ⟨ob, Heap.get?_push_size _ hf, ho⟩
  · intro a ha
    rcases List.mem_append.mp ha with q | q
    · exact g.new a q
    · simp at q; subst q; exact g.fresh.2
  · intro a ha
    rcases List.mem_append.mp ha with q | q
    · exact g.big a q
    · simp at q; subst q
      obtain ⟨o3, h3⟩ := g.g3
      have := Heap.lt_size (g.base _ _ h3)
      exact beq_eq_false_iff_ne.mpr (Nat.ne_of_gt (Nat.lt_trans (by decide) this))
  · intro b o' n e
    refine ⟨Heap.get?_push_of_some _ e, fun hm => ?_⟩
    rcases List.mem_append.mp hm with q | q
    · exact n q
    · simp at q; subst q; exact absurd (Heap.lt_size e) (Nat.lt_irrefl _)

/-- an object of the small machine's is changed -/
theorem Gd.update {w : World} {L : Pl} {G : Heap} {β : List Addr} {T : Nat} {h : Hp} {H H' : Heap} {k : Nat} {a : Addr} (g : Gd w L G β T h H) {o' : O} {ob' : Obj} (ha : β[k]? = some a)
    (hk : ∀ b o, b ≠ a → H.get? b = some o → H'.get? b = some o) (hob : H'.get? a = some ob') (ho : ORd w L β T o' ob') : Gd w L G β T (h.set k o') H' ∧ Ext β H β H' := by
  refine ⟨⟨by simp [g.len], g.nd, ?_, fun b o e => hk b o (fun z => ?_) (g.base b o e), g.new, g.pos, g.g3, g.big⟩, Pre.refl β, fun b o n e => ⟨hk b o (fun z => n (z ▸ List.mem_of_getElem? ha)) e, n⟩⟩
  · intro j o b e1 e2
    by_cases hj : j = k
    · subst hj
      have : j < h.length := by
        rw [← g.len]
        rcases Nat.lt_or_ge j β.length with q | q
        · exact q
        · rw [List.getElem?_eq_none q] at ha; cases ha
      rw [List.getElem?_set_self this] at e1
      cases e1
      rw [ha] at e2; cases e2
      exact ⟨ob', hob, ho⟩
    · rw [List.getElem?_set_ne (Ne.symm hj)] at e1
      obtain ⟨ob, q, r⟩ := g.objs j o b e1 e2
      refine ⟨ob, hk b ob (fun z => hj ?_) q, r⟩
      have hb : j < β.length := by
        rcases Nat.lt_or_ge j β.length with q | q
        · exact q
        · rw [List.getElem?_eq_none q] at e2; cases e2
      exact (List.getElem?_inj hb g.nd).mp (by rw [e2, ha, z])
  · subst z
    have := g.new _ (List.mem_of_getElem? ha)
    rw [e] at this; cases this

/-- the frame's names -/
noncomputable def LR (L : Pl) (β : List Addr) (T : Nat) : List Str → M → (Str → Option Value) → Prop
  | [], [], _ => True
  | x :: xs, v :: m, f => (match v with
      | none => f x = none
      | some v => ∃ y, f x = some y ∧ VR L β T v y) ∧ LR L β T xs m f
  | _, _, _ => False
theorem LR.mono {L : Pl} {β β' : List Addr} {T T' : Nat} (hp : Pre β β') (ht : T ≤ T') : ∀ {xs : List Str} {m : M} {f : Str → Option Value}, LR L β T xs m f → LR L β' T' xs m f
  | [], [], _, h => h
  | _ :: _, none :: _, _, h => ⟨h.1, h.2.mono hp ht⟩
  | _ :: _, some _ :: _, _, h => ⟨let ⟨y, a, b⟩ := h.1; ⟨y, a, b.mono hp ht⟩, h.2.mono hp ht⟩
  | [], _ :: _, _, h => h.elim
  | _ :: _, [], _, h => h.elim
theorem LR.get {L : Pl} {β : List Addr} {T : Nat} : ∀ {xs : List Str} {m : M} {f : Str → Option Value} {i : Nat} {v : V}, LR L β T xs m f → m.getD i none = some v → ∃ y, f (xs.getD i default) = some y ∧ VR L β T v y
  | x :: xs, u :: m, f, 0, v, h, e => by
    simp at e; subst e; simpa using h.1
  | x :: xs, u :: m, f, i + 1, v, h, e => by
    have := LR.get (i := i) (v := v) h.2 (by simpa using e)
    simpa using this
  | [], [], _, _, _, _, e => by simp at e
  | [], _ :: _, _, _, _, h, _ => h.elim
  | _ :: _, [], _, _, _, h, _ => h.elim
theorem LR.other {L : Pl} {β : List Addr} {T : Nat} {x : Str} {y : Value} : ∀ {xs : List Str} {m : M} {f : Str → Option Value}, LR L β T xs m f → x ∉ xs → LR L β T xs m (fun z => if z = x then some y else f z)
  | [], [], _, _, _ => trivial
  | z :: _, none :: _, _, h, n => ⟨by have : z ≠ x := fun e => n (e ▸ .head _); simp [this, h.1], h.2.other fun q => n (.tail _ q)⟩
  | z :: _, some _ :: _, _, h, n => ⟨by have : z ≠ x := fun e => n (e ▸ .head _); simpa [this] using h.1, h.2.other fun q => n (.tail _ q)⟩
  | [], _ :: _, _, h, _ => h.elim
  | _ :: _, [], _, h, _ => h.elim
theorem LR.set {L : Pl} {β : List Addr} {T : Nat} {v : V} {y : Value} (hv : VR L β T v y) : ∀ {xs : List Str} {m : M} {f : Str → Option Value} {i : Nat}, LR L β T xs m f → xs.Nodup → i < xs.length →
    LR L β T xs (m.set i (some v)) (fun z => if z = xs.getD i default then some y else f z)
  | x :: xs, u :: m, f, 0, h, nd, _ => by
    refine ⟨⟨y, by simp, hv⟩, ?_⟩
    have := h.2.other (x := x) (y := y) (List.nodup_cons.mp nd).1
    simpa using this
  | x :: xs, u :: m, f, i + 1, h, nd, hi => by
    have hi' : i < xs.length := by simpa using hi
    have hne : x ≠ xs.getD i default := by
      intro e
      have : xs.getD i default ∈ xs := by rw [List.getD_eq_getElem?_getD, List.getElem?_eq_getElem hi']; exact List.getElem_mem hi'
      exact (List.nodup_cons.mp nd).1 (e ▸ this)
    rw [List.getD_eq_getElem?_getD] at hne
    refine ⟨?_, by simpa using h.2.set hv (List.nodup_cons.mp nd).2 hi'⟩
    have h1 := h.1
    cases u with
    | none => simpa [hne] using h1
    | some u => simpa [hne] using h1
  | [], [], _, _, _, _, hi => by simp at hi
  | [], _ :: _, _, _, h, _, _ => h.elim
  | _ :: _, [], _, _, h, _, _ => h.elim
theorem LR.len {L : Pl} {β : List Addr} {T : Nat} : ∀ {xs : List Str} {m : M} {f : Str → Option Value}, LR L β T xs m f → xs.length = m.length
  | [], [], _, _ => rfl
  | _ :: _, _ :: _, _, h => by rw [List.length_cons, List.length_cons, h.2.len]
  | [], _ :: _, _, h => h.elim
  | _ :: _, [], _, h => h.elim

/-- the frame at hand: its names, its place -/
structure Frm (L : Pl) (G : Heap) (N : Nm) (β : List Addr) (T : Nat) (m : M) (A : Addr) (H : Heap) : Prop where
  ns : ∃ f, H.Ns A f ∧ LR L β T N.slots m f
  out : A ∉ β
  new : G.get? A = none
theorem Frm.ext {L : Pl} {G : Heap} {N : Nm} {β β' : List Addr} {T T' : Nat} {m : M} {A : Addr} {H H' : Heap} (f : Frm L G N β T m A H) (x : Ext β H β' H') (ht : T ≤ T') : Frm L G N β' T' m A H' := by
  obtain ⟨⟨g, ⟨o, es, ep, ho, r⟩, l⟩, out, new⟩ := f
  obtain ⟨h1, h2⟩ := x.keep A o out ho
  exact ⟨⟨g, ⟨o, es, ep, h1, r⟩, l.mono x.pre ht⟩, h2, new⟩

end Mine

end

section
open PySem PySem.Calls PyProof.Rows PySem.W
namespace Mine
open PySem.StrLaws PySem.Builtin PySem.Builtin.Str

theorem isP_iff {y l : List Nat} : y.isPrefixOf l = true ↔ y <+: l := List.isPrefixOf_iff_prefix
theorem at_iff {l y : List Nat} {i : Nat} : At ⟨l.toArray⟩ ⟨y.toArray⟩ l.length i ↔ i ≤ l.length ∧ y <+: l.drop i := by
  unfold StrLaws.At
  rw [subAt_eq]
  simp only [Str.length, List.size_toArray, beq_iff_eq]
  rw [List.prefix_iff_eq_take]
  constructor
  · intro ⟨h, e⟩
    exact ⟨by omega, e.symm⟩
  · intro ⟨h, e⟩
    refine ⟨?_, e.symm⟩
    have := congrArg List.length e
    simp at this
    omega
theorem repl_none {y z : List Nat} : ∀ {n : Nat} {l : List Nat}, (∀ k, k ≤ l.length → ¬ y <+: l.drop k) → repl y z n l = l
  | 0, l, _ => rfl
  | n + 1, [], _ => rfl
  | n + 1, c :: r, h => by
    have h0 : y.isPrefixOf (c :: r) = false := by
      cases e : y.isPrefixOf (c :: r) with
      | false => rfl
      | true => exact absurd (isP_iff.mp e) (h 0 (Nat.zero_le _))
    show (if y.isPrefixOf (c :: r) = true then _ else c :: repl y z n r) = _
    rw [h0]
    simp only [Bool.false_eq_true, if_false]
    rw [repl_none fun k hk => by have := h (k + 1) (by simpa using hk); simpa using this]
theorem repl_skip {y z : List Nat} : ∀ {k n : Nat} {l : List Nat}, (∀ j, j < k → ¬ y <+: l.drop j) → k ≤ l.length → k ≤ n → repl y z n l = l.take k ++ repl y z (n - k) (l.drop k)
  | 0, n, l, _, _, _ => by simp
  | k + 1, 0, l, _, _, h => by omega
  | k + 1, n + 1, [], _, h, _ => by simp at h
  | k + 1, n + 1, c :: r, h, h1, h2 => by
    have h0 : y.isPrefixOf (c :: r) = false := by
      cases e : y.isPrefixOf (c :: r) with
      | false => rfl
      | true => exact absurd (isP_iff.mp e) (h 0 (Nat.succ_pos _))
    show (if y.isPrefixOf (c :: r) = true then _ else c :: repl y z n r) = _
    rw [h0]
    simp only [Bool.false_eq_true, if_false]
    rw [repl_skip (k := k) (fun j hj => by have := h (j + 1) (by omega); simpa using this) (by simpa using h1) (by omega)]
    simp
theorem repl_hit {y z : List Nat} {n : Nat} {l : List Nat} (hy : y ≠ []) (h : y <+: l) (hn : l.length ≤ n) : repl y z n l = z ++ repl y z (n - 1) (l.drop y.length) := by
  cases n with
  | zero =>
    have : l = [] := List.length_eq_zero_iff.mp (by omega)
    subst this
    exact absurd (List.prefix_nil.mp h) hy
  | succ n =>
    cases l with
    | nil => exact absurd (List.prefix_nil.mp h) hy
    | cons c r =>
      show (if y.isPrefixOf (c :: r) = true then _ else c :: repl y z n r) = _
      rw [isP_iff.mpr h]
      rfl
theorem join_cons2 (z p q : Str) (r : List Str) : (Str.join z (p :: q :: r)).cps.toList = p.cps.toList ++ z.cps.toList ++ (Str.join z (q :: r)).cps.toList := by
  show ((p ++ z ++ Str.join z (q :: r)).cps).toList = _
  rw [Str.cps_append, Str.cps_append]
  simp
theorem join_cuts {l y z : List Nat} (hy : y ≠ []) : ∀ (cuts : List Nat) (a f n : Nat), a ≤ l.length → ChainG ⟨l.toArray⟩ ⟨y.toArray⟩ l.length a cuts f → (∀ k, f ≤ k → ¬ At ⟨l.toArray⟩ ⟨y.toArray⟩ l.length k) → l.length - a ≤ n →
    (Str.join ⟨z.toArray⟩ (partsFrom ⟨l.toArray⟩ y.length a cuts)).cps.toList = repl y z n (l.drop a)
  | [], a, f, n, ha, hc, hn, hf => by
    have e : f = a := hc
    subst e
    show (strSub _ _ _).cps.toList = _
    rw [strSub_toList, repl_none]
    · simp only [Str.length, List.size_toArray]
      exact List.take_of_length_le (by simp)
    · intro k hk hp
      rw [List.drop_drop] at hp
      exact hn (f + k) (by omega) (at_iff.mpr ⟨by simp at hk; omega, hp⟩)
  | c :: r, a, f, n, ha, hc, hn, hf => by
    obtain ⟨hac, hA, hfree, hr⟩ := hc
    obtain ⟨hcl, hp⟩ := at_iff.mp hA
    have hyl : y.length ≤ (l.drop c).length := hp.length_le
    rw [List.length_drop] at hyl
    have hyp : 0 < y.length := List.length_pos_iff.mpr hy
    obtain ⟨p, q, e⟩ := partsFrom_ne ⟨l.toArray⟩ y.length (c + y.length) r
    show (Str.join ⟨z.toArray⟩ (strSub ⟨l.toArray⟩ a c :: partsFrom ⟨l.toArray⟩ y.length (c + y.length) r)).cps.toList = _
    rw [e, join_cons2, ← e, strSub_toList]
    have hr' : ChainG ⟨l.toArray⟩ ⟨y.toArray⟩ l.length (c + y.length) r f := hr
    rw [join_cuts hy r (c + y.length) f (n - (c - a) - 1) (by omega) hr' hn (by omega)]
    rw [repl_skip (k := c - a) (n := n) (l := l.drop a) (fun j hj hp' => by
      rw [List.drop_drop] at hp'
      exact hfree (a + j) (by omega) (by omega) (at_iff.mpr ⟨by omega, hp'⟩)) (by simp; omega) (by omega)]
    rw [List.drop_drop, show a + (c - a) = c from by omega]
    rw [repl_hit (l := l.drop c) hy hp (by simp; omega), List.drop_drop]
    simp
theorem replace_is {l y z : List Nat} (hy : y ≠ []) : Txt.replace ⟨l.toArray⟩ ⟨y.toArray⟩ ⟨z.toArray⟩ = ⟨(replace y z l).toArray⟩ := by
  obtain ⟨f, hc, hn⟩ := occ_tight ⟨l.toArray⟩ ⟨y.toArray⟩ (by simp [Str.length]; exact List.length_pos_iff.mpr hy)
  have hlen : (⟨l.toArray⟩ : Str).length = l.length := by simp [Str.length]
  have hylen : (⟨y.toArray⟩ : Str).length = y.length := by simp [Str.length]
  rw [hlen] at hc hn
  have key := join_cuts (z := z) hy _ 0 f l.length (Nat.zero_le _) hc hn (by omega)
  rw [List.drop_zero] at key
  have hy0 : ((⟨y.toArray⟩ : Str).length == 0) = false := by
    rw [hylen]
    simp; exact hy
  unfold Txt.replace
  rw [hy0, Bool.false_and, Bool.or_false, hlen, hylen]
  split
  · rename_i he
    have : occurrences ⟨l.toArray⟩ ⟨y.toArray⟩ 0 l.length (l.length + 1) = [] := List.isEmpty_iff.mp he
    rw [this] at key
    have h2 : (Str.join ⟨z.toArray⟩ (partsFrom ⟨l.toArray⟩ y.length 0 [])).cps.toList = l := by
      show (strSub _ _ _).cps.toList = _
      rw [strSub_toList]; simp [Str.length]
    rw [h2] at key
    unfold replace
    rw [← key]
  · rw [partsBetween_eq, glued_eq_join]
    unfold replace
    rw [← key]
theorem repl_len {y z : List Nat} (hy : y ≠ []) : ∀ {n : Nat} {l : List Nat}, (repl y z n l).length ≤ l.length + l.length * z.length
  | 0, l => by show l.length ≤ _; omega
  | n + 1, [] => by simp [repl]
  | n + 1, c :: r => by
    show (if y.isPrefixOf (c :: r) = true then _ else c :: repl y z n r).length ≤ _
    have hyp : 0 < y.length := List.length_pos_iff.mpr hy
    split
    · have := repl_len (y := y) (z := z) hy (n := n) (l := (c :: r).drop y.length)
      rw [List.length_append]
      rw [List.length_drop] at this
      have h2 : ((c :: r).length - y.length) * z.length ≤ (c :: r).length * z.length - z.length := by
        rw [List.length_cons]
        have : (r.length + 1 - y.length) * z.length ≤ r.length * z.length := Nat.mul_le_mul_right _ (by omega)
        rw [Nat.succ_mul]; omega
      have h3 : z.length ≤ (c :: r).length * z.length := by rw [List.length_cons, Nat.succ_mul]; omega
      rw [List.length_cons] at *
      omega
    · have := repl_len (y := y) (z := z) hy (n := n) (l := r)
      rw [List.length_cons, List.length_cons, Nat.succ_mul]
      omega
theorem replace_len {y z l : List Nat} (hy : y ≠ []) : (replace y z l).length ≤ l.length + l.length * z.length := repl_len hy

theorem inStr_iff {y : List Nat} : ∀ {l : List Nat}, inStr y l = true ↔ ∃ i, i ≤ l.length ∧ y <+: l.drop i
  | [] => by
    simp only [inStr, List.isEmpty_iff]
    constructor
    · intro h; subst h; exact ⟨0, Nat.le_refl _, List.nil_prefix⟩
    · intro ⟨i, _, h⟩; simpa using h
  | c :: r => by
    simp only [inStr, Bool.or_eq_true, isP_iff, inStr_iff (l := r)]
    constructor
    · rintro (h | ⟨i, hi, h⟩)
      · exact ⟨0, Nat.zero_le _, h⟩
      · exact ⟨i + 1, by simpa using hi, by simpa using h⟩
    · rintro ⟨i, hi, h⟩
      cases i with
      | zero => exact .inl h
      | succ i => exact .inr ⟨i, by simpa using hi, by simpa using h⟩
theorem contains_is {l y : List Nat} : Txt.contains ⟨l.toArray⟩ ⟨y.toArray⟩ = inStr y l := by
  rw [Bool.eq_iff_iff, inStr_iff]
  refine (found_iff _ _).trans ?_
  have : ∀ i, (i + (⟨y.toArray⟩ : Str).length ≤ (⟨l.toArray⟩ : Str).length ∧ subAt ⟨l.toArray⟩ ⟨y.toArray⟩ i = true) ↔ (i ≤ l.length ∧ y <+: l.drop i) := fun i => by
    rw [← at_iff]
    unfold StrLaws.At
    simp [Str.length]
  simp only [this]

theorem clip_is (i : Int) (n : Nat) : max (0 : Int) (min (if i < 0 then i + n else i) n) = (clamp i n : Int) := by
  unfold clamp
  split <;> omega
theorem idx_some (i j : Option Int) (n : Nat) : strSliceIndices i j 1 n = strSliceIndices (some ((((i.map fun i => clamp i n).getD 0 : Nat)) : Int)) (some ((((j.map fun i => clamp i n).getD n : Nat)) : Int)) 1 n := by
  have h1 : (1 : Int) > 0 := by decide
  unfold strSliceIndices
  simp only [h1, if_true]
  congr 1
  · cases i with
    | none => simp; omega
    | some i =>
      simp only [Option.map_some, Option.getD_some]
      rw [clip_is, clip_is]
      unfold clamp
      split <;> (try split) <;> omega
  · cases j with
    | none => simp; omega
    | some i =>
      simp only [Option.map_some, Option.getD_some]
      rw [clip_is, clip_is]
      unfold clamp
      split <;> (try split) <;> omega
theorem clamp_le (i : Int) (n : Nat) : clamp i n ≤ n := by
  unfold clamp; split <;> omega
theorem slc_picked (l : List Nat) (lo hi : Option Int) : (strSliceIndices lo hi 1 l.length).filterMap (l.toArray[·]?) = slc l lo hi := by
  rw [idx_some]
  unfold slc
  have ha : (lo.map fun i => clamp i l.length).getD 0 ≤ l.length := by cases lo <;> simp [clamp_le]
  have hb : (hi.map fun i => clamp i l.length).getD l.length ≤ l.length := by cases hi <;> simp [clamp_le]
  generalize (lo.map fun i => clamp i l.length).getD 0 = a at *
  generalize (hi.map fun i => clamp i l.length).getD l.length = b at *
  rcases Nat.lt_or_ge b a with hab | hab
  rotate_left
  · rw [strSliceIndices_plain hab hb]
    have : (fun (x : Nat) => l.toArray[x]?) = (fun (x : Nat) => l[x]?) := by funext x; simp
    rw [this, picks l (b - a) a (by omega), List.drop_take]
  · have : strSliceIndices (some (a : Int)) (some (b : Int)) 1 l.length = [] := by
      unfold strSliceIndices sliceRange
      simp only [show (1 : Int) > 0 by decide, if_true]
      rw [if_neg (by omega : ¬ ((a : Int) < 0)), if_neg (by omega : ¬ ((b : Int) < 0))]
      have : ¬ (max (0 : Int) (min (a : Int) l.length) < max (0 : Int) (min (b : Int) l.length)) := by omega
      simp [this]
    rw [this, List.drop_eq_nil_of_le (by simp; omega)]
    rfl
theorem slc_len (l : List Nat) (lo hi : Option Int) : (slc l lo hi).length ≤ l.length := by
  unfold slc
  simp
  omega
theorem slc_all (l : List Nat) (lo hi : Option Int) (h : (strSliceIndices lo hi 1 l.length).length = l.length) : slc l lo hi = l := by
  rw [← slc_picked]
  rw [idx_some] at h ⊢
  have ha : (lo.map fun i => clamp i l.length).getD 0 ≤ l.length := by cases lo <;> simp [clamp_le]
  have hb : (hi.map fun i => clamp i l.length).getD l.length ≤ l.length := by cases hi <;> simp [clamp_le]
  generalize (lo.map fun i => clamp i l.length).getD 0 = a at *
  generalize (hi.map fun i => clamp i l.length).getD l.length = b at *
  have h2 : a = 0 ∧ b = l.length ∨ l = [] := by
    rcases Nat.lt_or_ge b a with hab | hab
    rotate_left
    · rw [strSliceIndices_plain hab hb] at h
      simp at h
      rcases Nat.eq_zero_or_pos l.length with z | z
      · exact .inr (List.length_eq_zero_iff.mp z)
      · exact .inl (by omega)
    · unfold strSliceIndices sliceRange at h
      simp only [show (1 : Int) > 0 by decide, if_true] at h
      rw [if_neg (by omega : ¬ ((a : Int) < 0)), if_neg (by omega : ¬ ((b : Int) < 0))] at h
      simp at h
      exact .inr (List.length_eq_zero_iff.mp (by omega))
  rcases h2 with ⟨rfl, rfl⟩ | rfl
  · have : (fun (x : Nat) => l.toArray[x]?) = (fun (x : Nat) => l[x]?) := by funext x; simp
    rw [strSliceIndices_plain (Nat.zero_le _) (Nat.le_refl _), this, picks l _ 0 (by omega)]
    simp
  · simp

theorem nidx_is {i : Int} {n j : Nat} (h : nidx i n = some j) : seqIndex? i n = some j ∧ j < n ∧ -(n : Int) ≤ i ∧ i < n := by
  unfold nidx at h
  unfold seqIndex?
  split at h
  · split at h
    · cases h
      have hi : ¬ i < 0 := by omega
      simp only [hi, if_false]
      refine ⟨?_, by assumption, by omega, by omega⟩
      rw [if_pos (by simp; omega)]
    · cases h
  · split at h
    · cases h
      have hi : i < 0 := by omega
      simp only [hi, if_true]
      refine ⟨?_, by omega, by omega, by omega⟩
      rw [if_pos (by simp; omega)]
    · cases h
end Mine

end

section
open PySem PySem.Calls PyProof.Rows PySem.W
namespace Mine

/-- the law's own constants: the program, the world, where things stand -/
structure Cx where
  prog : Program
  w : World
  L : Pl
  F : List Fn
  X : Hp
  G : Heap
  globs : List Str
  mg : Str → Option Value
  mb : Str → Option Value

noncomputable def Bi.value : Bi → Value
  | .len => .builtin "len" | .abs => .builtin "abs" | .range => .type "range" | .isinstance => .builtin "isinstance" | .strT => .type "str"

structure Cx.Ok (C : Cx) : Prop where
  nolimit : C.G.NoLimit
  booked : NoneBooked C.G
  g : C.G.Ns mainGlobals C.mg
  b : C.G.Ns builtinsNs C.mb
  fn : ∀ (i : Nat) (a : Addr), C.L.fa[i]? = some a → C.mg (C.globs.getD i default) = some (.ref a) ∧ ∃ o fd, C.G.get? a = some o ∧ o.data = .func fd
  fns : ∀ i : Nat, i < C.globs.length → ∃ a, C.L.fa[i]? = some a
  bi : ∀ n : Bi, C.mg (Str.ofString n.name) = none ∧ C.mb (Str.ofString n.name) = some n.value
  ext : ∀ (j : Nat) (o : O), C.X[j]? = some o → ∃ a ob, C.L.xa[j]? = some a ∧ C.G.get? a = some ob ∧ OR C.w C.L [] 0 o ob ∧ ((∀ vs, o ≠ O.list vs) → (a == sysModules) = false)

structure EnvOk (C : Cx) (N : Nm) (sc : Scope) (env : Env) (A : Addr) : Prop where
  scp : env.scope = sc
  kind : sc.kind = .function
  loc : env.locals = A
  glo : env.globals = mainGlobals
  blt : env.builtins = builtinsNs
  gl : N.globs = C.globs
  nd : N.slots.Nodup

structure AOk (A : Around) (d : Nat) : Prop where
  hd : A.handled = none
  dep : A.depth + d < recursionLimit
  un : A.units + 3 * d + 100 < cLine

noncomputable def Pst (C : Cx) (s : Shared) (β : List Addr) (h' : Hp) (v : V) (Q : Value → Shared → Prop) : Prop :=
  ∀ x β' H' T', s.toks ≤ T' → Ext β s.heap β' H' → Gd C.w C.L C.G β' T' h' H' → VR C.L β' T' v x → Q x { s with heap := H', toks := T' }

noncomputable def SEv (C : Cx) (S : Sm) (d : Nat) : Prop :=
  ∀ (e : ME) (N : Nm) (sc : Scope) (env : Env) (A₀ : Addr) (A : Around) (m : M) (h h' : Hp) (v : V), e.ok N sc = true → EnvOk C N sc env A₀ → AOk A d → S.ev e m h = some (v, h') →
  ∀ (s : Shared) (β : List Addr) (Q : Value → Shared → Prop) (E : Value → Shared → Prop), Gd C.w C.L C.G β s.toks h s.heap → Frm C.L C.G N β s.toks m A₀ s.heap → Pst C s β h' v Q → wpAny (model C.prog C.w) A (eval (e.back N) env) Q E s

noncomputable def SCl (C : Cx) (S : Sm) (d : Nat) : Prop :=
  ∀ (g : Nat) (vs : List V) (h h' : Hp) (v : V) (A : Around), AOk A d → S.cl g vs h = some (v, h') →
  ∀ (s : Shared) (β : List Addr) (a : Addr) (xs : List Value) (R : Result → Shared → Prop), C.L.fa[g]? = some a → All2 (VR C.L β s.toks) vs xs → Gd C.w C.L C.G β s.toks h s.heap →
  Pst C s β h' v (fun x s' => R (.ok (.ret x)) s') → codeAny (model C.prog C.w) A (.call (.ref a) ⟨xs, []⟩) R s

section
variable {C : Cx} {N : Nm} {sc : Scope} {env : Env} {A₀ : Addr} {A : Around} {d : Nat} {m : M} {h h' : Hp} {v : V} {s : Shared} {β : List Addr} {Q : Value → Shared → Prop} {E : Value → Shared → Prop} {S : Sm}

/-- what is to be shown of an expression -/
noncomputable def GE (C : Cx) (N : Nm) (env : Env) (A : Around) (Q : Value → Shared → Prop) (E : Value → Shared → Prop) (s : Shared) (e : ME) : Prop := wpAny (model C.prog C.w) A (eval (e.back N) env) Q E s
/-- what is to be shown of a statement -/
noncomputable def GX (C : Cx) (N : Nm) (env : Env) (A : Around) (Q : Flow → Shared → Prop) (E : Value → Shared → Prop) (s : Shared) (t : MS) : Prop := wpAny (model C.prog C.w) A (exec (t.back N) env) Q E s
theorem Pst.same (pst : Pst C s β h v Q) (G : Gd C.w C.L C.G β s.toks h s.heap) {x : Value} {T : Nat} (ht : s.toks ≤ T) (r : VR C.L β T v x) : Q x { s with toks := T } :=
  pst x β s.heap T ht (Ext.refl _ _) (G.toks ht) r
theorem Pst.here (pst : Pst C s β h v Q) (G : Gd C.w C.L C.G β s.toks h s.heap) {x : Value} (r : VR C.L β s.toks v x) : Q x s :=
  pst x β s.heap s.toks (Nat.le_refl _) (Ext.refl _ _) G r
/-- behind a first step -/
theorem Pst.step {β' : List Addr} {H' : Heap} {T' : Nat} (pst : Pst C s β h' v Q) (ht : s.toks ≤ T') (x : Ext β s.heap β' H') : Pst C { s with heap := H', toks := T' } β' h' v Q :=
  fun y β'' H'' T'' ht' x' g r => pst y β'' H'' T'' (Nat.le_trans ht ht') (x.trans x') g r

theorem bind_some {α γ : Type} {o : Option α} {f : α → Option γ} {c : γ} (e : o.bind f = some c) : ∃ a, o = some a ∧ f a = some c := by
  cases o with
  | none => cases e
  | some a => exact ⟨a, rfl, e⟩
theorem map_some {α γ : Type} {o : Option α} {f : α → γ} {c : γ} (e : o.map f = some c) : ∃ a, o = some a ∧ f a = c := by
  cases o with
  | none => cases e
  | some a => exact ⟨a, rfl, Option.some.inj e⟩

theorem obj_at (ok0 : C.Ok) {T : Nat} {H : Heap} (g : Gd C.w C.L C.G β T h H) {v : V} {o : O} (e : obj C.X h v = some o) {x : Value} (r : VR C.L β T v x) :
    ∃ a ob, x = .ref a ∧ H.get? a = some ob ∧ OR C.w C.L β T o ob ∧ ((∀ vs, o ≠ O.list vs) → (a == sysModules) = false) := by
  cases v with
  | ref k =>
    obtain ⟨a, ha, rfl⟩ := r
    obtain ⟨ob, q, z⟩ := g.objs k o a e ha
    exact ⟨a, ob, rfl, q, z.1, fun _ => g.big a (List.mem_of_getElem? ha)⟩
  | ext j =>
    obtain ⟨a, ha, rfl⟩ := r
    obtain ⟨a', ob, ha', q, z, lo⟩ := ok0.ext j o e
    rw [ha] at ha'; cases ha'
    exact ⟨a, ob, rfl, g.base _ _ q, z.mono ⟨β, rfl⟩ (Nat.zero_le _), lo⟩
  | _ => cases e

theorem OR.isList {w : World} {L : Pl} {T : Nat} {vs : List V} {ob : Obj} {H : Heap} {a : Addr} (q : H.get? a = some ob) (r : OR w L β T (.list vs) ob) : ∃ items, H.IsList a items ∧ All2 (VR L β T) vs items.toList ∧ vs.length ≤ LIM := by
  obtain ⟨items, n, d, sl, rfl, al, le⟩ := r
  exact ⟨items, ⟨_, q, rfl, n, rfl⟩, al, le⟩
theorem keys_dict {w : World} {L : Pl} {T : Nat} {rep : Bool} : ∀ {es : List (List Nat × V)} {ents : List DictEntry}, All2 (ER w L β T rep) es ents → ∀ e ∈ ents, ∃ k, Value.isStrOf k e.key = true ∧ e.hash = hashStr w k
  | [], [], _, _, hm => nomatch hm
  | [], _ :: _, al, _, _ => al.elim
  | _ :: _, [], al, _, _ => al.elim
  | e :: es, d :: ents, al, e', hm => by
    cases hm with
    | head =>
      obtain ⟨t, h1, h2, _⟩ := al.1
      exact ⟨⟨e.1.toArray⟩, by rw [h1]; exact beq_self_eq_true _, h2⟩
    | tail _ hm => exact keys_dict al.2 e' hm
theorem isStrOf_key {k k' : List Nat} {t : Tok} : Value.isStrOf ⟨k.toArray⟩ (.str ⟨k'.toArray⟩ t) = (k' == k) := by
  show (_ == _) = _
  rw [Bool.eq_iff_iff]
  simp only [beq_iff_eq]
  constructor
  · intro e
    have := congrArg (fun x : Str => x.cps.toList) e
    first | exact this | exact this.symm
  · rintro rfl; rfl
theorem es_len {w : World} {L : Pl} {T : Nat} {rep : Bool} {es : List (List Nat × V)} {ents : List DictEntry} (al : All2 (ER w L β T rep) es ents) : es.length = ents.length := al.length

theorem ev_loc {i : Nat} {p : Pos} (V₀ : EnvOk C N sc env A₀) (ok : ME.ok N sc (.loc i p) = true) (e : stepE C.X S (.loc i p) m h = some (v, h')) (G : Gd C.w C.L C.G β s.toks h s.heap) (F : Frm C.L C.G N β s.toks m A₀ s.heap) (pst : Pst C s β h' v Q) :
    GE C N env A Q E s (ME.loc i p) := by
  replace ok := (show (_ && _) = true from ok)
  simp only [Bool.and_eq_true, Bool.not_eq_true', beq_iff_eq, decide_eq_true_eq] at ok
  obtain ⟨v', e1, e2⟩ := map_some e
  cases e2
  obtain ⟨⟨f, hn, l⟩, _, _⟩ := F
  obtain ⟨y, hy, r⟩ := l.get e1
  refine wpAny_Name (wpAny_loadName_local (by rw [V₀.scp]; exact V₀.kind) (by unfold Env.kindOf; rw [V₀.scp]; exact ok.1.2) (by rw [V₀.loc]; exact hn) hy (pst.here G r)) ok.2

theorem ev_glob {i : Nat} {p : Pos} (ok0 : C.Ok) (V₀ : EnvOk C N sc env A₀) (ok : ME.ok N sc (.glob i p) = true) (e : stepE C.X S (.glob i p) m h = some (v, h')) (G : Gd C.w C.L C.G β s.toks h s.heap) (pst : Pst C s β h' v Q) :
    GE C N env A Q E s (ME.glob i p) := by
  replace ok := (show (_ && _) = true from ok)
  simp only [Bool.and_eq_true, Bool.not_eq_true', beq_iff_eq, decide_eq_true_eq] at ok
  cases e
  obtain ⟨a, ha⟩ := ok0.fns i (by rw [← V₀.gl]; exact ok.1.1)
  have h1 := (ok0.fn i a ha).1
  refine Name_function_global (by rw [V₀.scp]; exact V₀.kind) (by unfold Env.kindOf; rw [V₀.scp]; exact ok.1.2) (loadGlobal_global (mg := C.mg) (by rw [V₀.glo]; exact ok0.g.keeps G.base) (by rw [V₀.gl]; exact h1) (pst.here G ⟨a, ha, rfl⟩)) ok.2

theorem vr_lit {L : Pl} {t T : Nat} (x : String) (h0 : 0 < t) (h1 : t < T) (hl : (lit x).length ≤ LIM) : VR L β T (.str (lit x)) (.str (Str.ofString x) t) := ⟨t, by rfl, h0, h1, hl⟩

theorem ev_cst {c : C0} {p : Pos} (ok : ME.ok N sc (.cst c p) = true) (e : stepE C.X S (.cst c p) m h = some (v, h')) (G : Gd C.w C.L C.G β s.toks h s.heap) (pst : Pst C s β h' v Q) :
    GE C N env A Q E s (ME.cst c p) := by
  cases e
  have hl : ∀ x, c = .str x → (lit x).length ≤ LIM := by
    rintro x rfl
    replace ok := of_decide_eq_true (show decide ((lit x).length ≤ 1000) = true from ok)
    unfold LIM; omega
  cases c with
  | none => exact fun _ _ _ => pst.here G rfl
  | bool b => exact fun _ _ _ => pst.here G rfl
  | int i => exact wpAny_Constant_int (pst.same G (Nat.le_succ _) ⟨_, rfl⟩)
  | str x => exact Constant_str (pst.same G (Nat.le_succ _) (vr_lit x G.pos (Nat.lt_succ_self _) (hl x rfl)))

/-- a text made by a built-in: the old value, or a new one -/
theorem made_str {l : List Nat} (G : Gd C.w C.L C.G β s.toks h s.heap) (pst : Pst C s β h (.str l) Q) {c : Bool} {x y : Str} {t : Tok} (hx : c = true → VR C.L β s.toks (.str l) (.str x t)) (hy : c = false → y = ⟨l.toArray⟩ ∧ l.length ≤ LIM) :
    (if c = true then Made.val (.str x t) else Made.str y).post Q s := by
  cases c with
  | true => exact pst.here G (hx rfl)
  | false =>
    obtain ⟨rfl, h1⟩ := hy rfl
    refine ⟨by rw [sizeLine_eq]; simp [Str.length]; exact h1, pst.same G (Nat.le_succ _) ⟨_, rfl, G.pos, Nat.lt_succ_self _, h1⟩⟩

theorem add_str_sound {x y : List Nat} {a b : Value} (G : Gd C.w C.L C.G β s.toks h s.heap) (ra : VR C.L β s.toks (.str x) a) (rb : VR C.L β s.toks (.str y) b) (hl : x.length + y.length ≤ LIM) (pst : Pst C s β h (.str (x ++ y)) Q) :
    wpAny (model C.prog C.w) A (binaryOp .Add a b) Q E s := by
  obtain ⟨t, rfl, t0, t1, _⟩ := ra
  obtain ⟨u, rfl, u0, u1, _⟩ := rb
  refine P.add_str ?_
  by_cases hx : ((⟨x.toArray⟩ : Str).length == 0) = true
  · rw [if_pos hx]
    have : x = [] := by simpa [Str.length] using hx
    subst this
    exact pst.here G ⟨u, rfl, u0, u1, by simpa using hl⟩
  · rw [if_neg hx]
    by_cases hy : ((⟨y.toArray⟩ : Str).length == 0) = true
    · rw [if_pos hy]
      have : y = [] := by simpa [Str.length] using hy
      subst this
      exact pst.here G ⟨t, by simp, t0, t1, by simpa using hl⟩
    · rw [if_neg hy]
      refine ⟨by rw [sizeLine_eq, Str.length_append]; simp [Str.length]; exact hl, pst.same G (Nat.le_succ _) ⟨_, ?_, G.pos, Nat.lt_succ_self _, by rw [List.length_append]; exact hl⟩⟩
      congr 1
      exact Str.ext' (by rw [Str.cps_append]; simp)
end
end Mine

end

section
open PySem PySem.Calls PyProof.Rows PySem.W
namespace Mine
section
variable {C : Cx} {N : Nm} {sc : Scope} {env : Env} {A₀ : Addr} {A : Around} {d : Nat} {m : M} {h h' : Hp} {v : V} {s : Shared} {β : List Addr} {Q : Value → Shared → Prop} {E : Value → Shared → Prop} {S : Sm}

theorem intBits_small {a : Int} (h : a.natAbs ≤ LIM) : Builtin.Int.intBits a ≤ 64 := by
  unfold Builtin.Int.intBits
  have : a.natAbs.log2 ≤ 24 := by
    have h2 : a.natAbs < 2 ^ 25 := by unfold LIM at h; omega
    by_cases h0 : a.natAbs = 0
    · rw [h0]; decide
    · have := (Nat.log2_lt h0).mpr h2
      omega
  first | omega | (split <;> omega)

theorem binop_sound {op : Operator} {x y v : V} {a b : Value} (hA : A.handled = none) (G : Gd C.w C.L C.G β s.toks h s.heap) (e : binop op x y = some v) (ra : VR C.L β s.toks x a) (rb : VR C.L β s.toks y b)
    (hm : ∀ f z, op = .Mod → x = .str f → y = .str z → ∀ (u t : Tok), wpAny (model C.prog C.w) A (binaryOp .Mod (.str ⟨f.toArray⟩ t) (.str ⟨z.toArray⟩ u)) Q E s)
    (pst : Pst C s β h v Q) : wpAny (model C.prog C.w) A (binaryOp op a b) Q E s := by
  unfold binop at e
  split at e
  · split at e
    · obtain ⟨t, rfl⟩ := ra; obtain ⟨u, rfl⟩ := rb
      unfold binI at e
      split at e
      · cases e
        exact PyProof.Rows.add_int (pst.same G (Nat.le_succ _) ⟨_, rfl⟩)
      · cases e
        exact PyProof.Rows.sub_int (pst.same G (Nat.le_succ _) ⟨_, rfl⟩)
      · split at e
        · rename_i hl
          cases e
          exact PyProof.Rows.mul_int (pst.same G (Nat.le_succ _) ⟨_, rfl⟩) (IntMulOk.of_left (intBits_small hl))
        · cases e
      · split at e
        · cases e
        · rename_i hy
          split at e
          · rename_i hl
            cases e
            exact floordiv_int_or hA (fun z => absurd z hy) (fun _ => pst.same G (Nat.le_succ _) ⟨_, rfl⟩) (fun _ => .inl (PyProof.noPylong_small (by unfold LIM at hl; omega)))
          · cases e
      · split at e
        · cases e
        · rename_i hy
          cases e
          exact mod_int_or hA (fun z => absurd z hy) (fun _ => pst.same G (Nat.le_succ _) ⟨_, rfl⟩)
      · cases e
    · cases e
  · split at e
    · unfold binS at e
      split at e
      · split at e
        · cases e; exact add_str_sound G ra rb (by assumption) pst
        · cases e
      · obtain ⟨t, rfl, _⟩ := ra; obtain ⟨u, rfl, _⟩ := rb
        exact hm _ _ rfl rfl rfl u t
      · cases e
    · cases e
  · cases e

theorem pairs_dict {prog : Program} {w : World} {L : Pl} {T : Nat} {rep : Bool} : ∀ {es : List (List Nat × V)} {ents : List DictEntry}, All2 (ER w L β T rep) es ents →
    ∃ kvs : List (Str × Value), PySem.Pairs (strKind prog w) ents kvs ∧ All2 (fun (e : List Nat × V) (kv : Str × Value) => kv.1 = ⟨e.1.toArray⟩ ∧ VR L β T e.2 kv.2) es kvs
  | [], [], _ => ⟨[], .nil, trivial⟩
  | e :: es, d :: ents, al => by
    obtain ⟨kvs, h1, h2⟩ := pairs_dict (prog := prog) al.2
    obtain ⟨t, k1, k2, k3, _⟩ := al.1
    exact ⟨(⟨e.1.toArray⟩, d.val) :: kvs, .cons (by rw [k1]; exact beq_self_eq_true _) rfl h1, ⟨rfl, k3⟩, h2⟩
  | [], _ :: _, al => al.elim
  | _ :: _, [], al => al.elim
theorem keys_nd {L : Pl} {T : Nat} : ∀ {es : List (List Nat × V)} {kvs : List (Str × Value)}, All2 (fun (e : List Nat × V) (kv : Str × Value) => kv.1 = ⟨e.1.toArray⟩ ∧ VR L β T e.2 kv.2) es kvs → (es.map (·.1)).Nodup → (kvs.map (·.1)).Nodup
  | [], [], _, _ => .nil
  | e :: es, kv :: kvs, al, nd => by
    rw [List.map_cons, List.nodup_cons] at nd ⊢
    refine ⟨fun hm => nd.1 ?_, keys_nd al.2 nd.2⟩
    rw [al.1.1] at hm
    have : ∀ {es : List (List Nat × V)} {kvs : List (Str × Value)}, All2 (fun (e : List Nat × V) (kv : Str × Value) => kv.1 = ⟨e.1.toArray⟩ ∧ VR L β T e.2 kv.2) es kvs → (⟨e.1.toArray⟩ : Str) ∈ kvs.map (·.1) → e.1 ∈ es.map (·.1) := by
      intro es
      induction es with
      | nil => intro kvs al hm; cases kvs with
        | nil => cases hm
        | cons _ _ => exact al.elim
      | cons e' es ih =>
        intro kvs al hm
        cases kvs with
        | nil => exact al.elim
        | cons kv kvs =>
          rw [List.map_cons] at hm ⊢
          rcases List.mem_cons.mp hm with q | q
          · rw [al.1.1] at q
            have e2 := congrArg (fun x : Str => x.cps.toList) q
            have e3 : e.1 = e'.1 := e2
            rw [e3]; exact .head _
          · exact .tail _ (ih al.2 q)
    exact this al.2 hm
  | [], _ :: _, al, _ => al.elim
  | _ :: _, [], al, _ => al.elim
theorem OR.isDictAt {prog : Program} {w : World} {L : Pl} {T : Nat} {rep : Bool} {ep : Nat} {es : List (List Nat × V)} {ob : Obj} {H : Heap} {a : Addr} (q : H.get? a = some ob) (r : OR w L β T (.dict rep ep es) ob) :
    ∃ kvs : List (Str × Value), H.DictAt (strKind prog w) a kvs ep ∧ All2 (fun (e : List Nat × V) (kv : Str × Value) => kv.1 = ⟨e.1.toArray⟩ ∧ VR L β T e.2 kv.2) es kvs := by
  obtain ⟨ents, rfl, al, nd, le⟩ := r
  obtain ⟨kvs, h1, h2⟩ := pairs_dict (prog := prog) al
  exact ⟨kvs, ⟨_, ents, q, ⟨rfl, rfl, rfl⟩, rfl, fun e he => keys_dict al e (Array.mem_toList_iff.mpr he), h1, keys_nd h2 nd⟩, h2⟩
theorem OR.isDict {prog : Program} {w : World} {L : Pl} {T : Nat} {rep : Bool} {ep : Nat} {es : List (List Nat × V)} {ob : Obj} {H : Heap} {a : Addr} (q : H.get? a = some ob) (r : OR w L β T (.dict rep ep es) ob) :
    ∃ kvs : List (Str × Value), H.DictOf (strKind prog w) a kvs ∧ kvs.length = es.length ∧ True := by
  obtain ⟨kvs, ⟨o, es', h1, h2, h3, h4, h5, h6⟩, al⟩ := OR.isDictAt (prog := prog) q r
  exact ⟨kvs, ⟨o, es', ep, h1, h2, h3, h4, h5, h6⟩, al.length.symm, trivial⟩

theorem truth_sound (ok0 : C.Ok) {x : Value} {t : Bool} {Q : Bool → Shared → Prop} (G : Gd C.w C.L C.G β s.toks h s.heap) (r : VR C.L β s.toks v x) (e : truth C.X h v = some t)
    (k : ∀ T, s.toks ≤ T → Q t { s with toks := T }) : wpAny (model C.prog C.w) A (truthy x) Q E s := by
  have onObj : ∀ {v : V}, VR C.L β s.toks v x → (obj C.X h v).bind O.full = some t → wpAny (model C.prog C.w) A (truthy x) Q E s := by
    intro v r e
    obtain ⟨o, e1, e2⟩ := bind_some e
    obtain ⟨a, ob, rfl, q, z, lo⟩ := obj_at ok0 G e1 r
    cases o with
    | list vs =>
      obtain ⟨items, hl, al, le⟩ := OR.isList q z
      have e3 : items.size = vs.length := by rw [← Array.length_toList, al.length]
      refine wpAny_truthy_list hl (by rw [e3]; unfold LIM at le; omega) ?_
      have e4 : (!items.isEmpty) = t := by
        cases e2
        rw [Bool.eq_iff_iff]
        simp only [Array.isEmpty, Bool.not_eq_true', decide_eq_false_iff_not, e3]
        cases vs <;> simp
      rw [e4]; exact k _ (by omega)
    | tup vs => cases e2
    | dict rep ep es =>
      obtain ⟨kvs, hd, hl, _⟩ := OR.isDict (prog := C.prog) q z
      have le : es.length ≤ LIM := let ⟨_, _, _, _, le⟩ := z; le
      refine wpAny_truthy_dict (lo fun vs e => by cases e) hd (by rw [hl]; unfold LIM at le; omega) ?_
      have e4 : (!kvs.isEmpty) = t := by
        cases e2
        rw [Bool.eq_iff_iff]
        cases kvs <;> cases es <;> simp_all
      rw [e4]; exact k _ (by omega)
  cases v with
  | none => cases e; subst r; exact truthy_none (k s.toks (Nat.le_refl _))
  | bool b => cases e; subst r; exact wpAny_truthy_bool (k s.toks (Nat.le_refl _))
  | int i =>
    obtain ⟨u, rfl⟩ := r
    refine PyProof.Rows.truthy_int ?_
    have : (i != 0) = t := by cases e; rw [Bool.eq_iff_iff]; simp
    rw [this]; exact k s.toks (Nat.le_refl _)
  | str l =>
    obtain ⟨u, rfl, _, _, hl⟩ := r
    have hsz : (⟨l.toArray⟩ : Str).length = l.length := by simp [Str.length]
    refine P.truthy_str (by rw [hsz]; unfold LIM at hl; omega) ?_
    have : (((⟨l.toArray⟩ : Str).length : Int) != 0) = t := by
      cases e
      rw [hsz]
      cases l <;> simp
      omega
    rw [this]; exact k _ (by omega)
  | ref j => exact onObj r e
  | ext j => exact onObj r e
  | fn g => cases e
end
end Mine

end

section
open PySem PySem.Calls PyProof.Rows PySem.W
namespace Mine
section
variable {C : Cx} {N : Nm} {sc : Scope} {env : Env} {A₀ : Addr} {A : Around} {d : Nat} {m : M} {h h' : Hp} {v : V} {s : Shared} {β : List Addr} {Q : Value → Shared → Prop} {E : Value → Shared → Prop} {S : Sm}

theorem str_eq_iff {x y : List Nat} : ((⟨x.toArray⟩ : Str) == ⟨y.toArray⟩) = decide (x = y) := by
  rw [Bool.eq_iff_iff]
  simp only [beq_iff_eq, decide_eq_true_eq]
  constructor
  · intro e
    have := congrArg (fun x : Str => x.cps.toList) e
    exact this
  · rintro rfl; rfl

theorem cmpS_sound {op : CmpOp} {x y : List Nat} {t u : Tok} {c : Bool} {Q : Value → Shared → Prop} (e : cmpS op x y = some c) (k : Q (.bool c) s) : wpAny (model C.prog C.w) A (compareOp op (.str ⟨x.toArray⟩ t) (.str ⟨y.toArray⟩ u)) Q E s := by
  have kb : ∀ c', c' = c → Q (.bool c') s := fun c' e => e ▸ k
  unfold cmpS at e
  split at e
  · cases e; exact PyProof.Rows.eq_str (kb _ str_eq_iff)
  · cases e; exact PyProof.Rows.ne_str (kb _ (by rw [bne, str_eq_iff]))
  · cases e; exact PyProof.Rows.in_str (kb _ contains_is)
  · cases e; exact PyProof.Rows.notIn_str (kb _ (congrArg (!·) contains_is))
  · cases e
theorem cmpI_sound {op : CmpOp} {x y : Int} {t u : Tok} {c : Bool} {Q : Value → Shared → Prop} (e : cmpI op x y = some c) (k : Q (.bool c) s) : wpAny (model C.prog C.w) A (compareOp op (.int x t) (.int y u)) Q E s := by
  have kb : ∀ c', c' = c → Q (.bool c') s := fun c' e => e ▸ k
  unfold cmpI at e
  split at e
  · cases e; exact PyProof.Rows.eq_int (kb _ (by rw [Bool.eq_iff_iff]; simp))
  · cases e; exact PyProof.Rows.ne_int (kb _ (by rw [Bool.eq_iff_iff]; simp))
  · cases e; exact PyProof.Rows.lt_int (kb _ rfl)
  · cases e; exact PyProof.Rows.le_int (kb _ rfl)
  · cases e; exact PyProof.Rows.gt_int (kb _ rfl)
  · cases e; exact PyProof.Rows.ge_int (kb _ rfl)
  · cases e

open PySem.SeqAt in
theorem alike_all {f : V → V → Bool} {R : V → Value → Prop} {P : Value → Value → Prop} (hf : ∀ x y a b, f x y = true → R x a → R y b → P a b) : ∀ {xs ys : List V} {as bs : List Value}, alike f xs ys = true → All2 R xs as → All2 R ys bs → as.length = bs.length ∧ ∀ (j : Nat) (h1 : j < as.length) (h2 : j < bs.length), P as[j] bs[j]
  | [], [], [], [], _, _, _ => ⟨rfl, fun j h1 => absurd h1 (Nat.not_lt_zero _)⟩
  | x :: xs, y :: ys, a :: as, b :: bs, e, ra, rb => by
    have e' := Bool.and_eq_true_iff.mp e
    obtain ⟨h1, h2⟩ := alike_all hf e'.2 ra.2 rb.2
    refine ⟨congrArg (· + 1) h1, fun j q1 q2 => ?_⟩
    cases j with
    | zero => exact hf _ _ _ _ e'.1 ra.1 rb.1
    | succ j => exact h2 j (Nat.lt_of_succ_lt_succ q1) (Nat.lt_of_succ_lt_succ q2)
  | [], _ :: _, _, _, e, _, _ => by cases e
  | _ :: _, [], _, _, e, _, _ => by cases e
  | [], [], _ :: _, _, _, r, _ => r.elim
  | [], [], [], _ :: _, _, _, r => r.elim
  | _ :: _, _ :: _, [], _, _, r, _ => r.elim
  | _ :: _, _ :: _, _ :: _, [], _, _, r => r.elim
theorem all_true {n : Nat} : (List.range n).all (fun _ => true) = true := by simp
theorem units_in1' {A : Around} : A.in1.units = A.units + 1 := rfl
open PySem.SeqAt in
theorem rc_eq {A : Around} {a b : Addr} {k : Bool} (h : RcAt A s (.ref a) (.ref b) k) (hk : k = true) : EqAt A s (.ref a) (.ref b) true := by
  subst hk
  by_cases hab : a = b
  · subst hab; exact EqAt.same _
  · exact EqAt.of_refs hab h
open PySem.SeqAt in
theorem deq_sound (ok0 : C.Ok) (G : Gd C.w C.L C.G β s.toks h s.heap) : ∀ (n : Nat) {A : Around} {x y : V} {a b : Value}, deq C.X h n x y = true → A.units + n < cLine → VR C.L β s.toks x a → VR C.L β s.toks y b → RcAt A s a b true ∧ EqAt A s a b true
  | 0, _, _, _, _, _, e, _, _, _ => by cases e
  | n + 1, A, x, y, a, b, e, hu, ra, rb => by
    have hu0 : A.units < cLine := by omega
    have ih : ∀ x y a b, deq C.X h n x y = true → VR C.L β s.toks x a → VR C.L β s.toks y b → EqAt A.in1 s a b true := fun x y a b e ra rb => (deq_sound ok0 G n e (by rw [units_in1']; omega) ra rb).2
    unfold deq at e
    split at e
    · rename_i xs ho
      split at e
      · rename_i ys ho2
        obtain ⟨a, ob, rfl, q, z, _⟩ := obj_at ok0 G ho ra
        obtain ⟨b, ob2, rfl, q2, z2, _⟩ := obj_at ok0 G ho2 rb
        obtain ⟨i1, l1, al1, _⟩ := OR.isList q z
        obtain ⟨i2, l2, al2, _⟩ := OR.isList q2 z2
        obtain ⟨h1, h2⟩ := alike_all ih e al1 al2
        simp only [Array.length_toList] at h1
        have := RcAt.lists (A := A) (s := s) (e := fun _ => true) l1 l2 h1 hu0 (fun j q1 q2 => h2 j (by simpa using q1) (by simpa using q2))
        rw [all_true] at this
        exact ⟨this, rc_eq this rfl⟩
      · cases e
    · rename_i xs ho
      split at e
      · rename_i ys ho2
        obtain ⟨a, ob, rfl, q, z, _⟩ := obj_at ok0 G ho ra
        obtain ⟨b, ob2, rfl, q2, z2, _⟩ := obj_at ok0 G ho2 rb
        obtain ⟨i1, n1, d1, s1, rfl, al1, _⟩ := z
        obtain ⟨i2, n2, d2, s2, rfl, al2, _⟩ := z2
        obtain ⟨h1, h2⟩ := alike_all ih e al1 al2
        simp only [Array.length_toList] at h1
        have := RcAt.tuples (A := A) (s := s) (e := fun _ => true) ⟨_, q, rfl, _, rfl⟩ ⟨_, q2, rfl, _, rfl⟩ hu0 (fun j q1 q2 => h2 j (by simpa using q1) (by simpa using q2))
        rw [all_true, h1, beq_self_eq_true, Bool.and_self] at this
        exact ⟨this, rc_eq this rfl⟩
      · cases e
    · cases e
    · split at e
      · split at e
        · rename_i x _ _ y
          obtain ⟨t, rfl, _⟩ := ra
          obtain ⟨u, rfl, _⟩ := rb
          have h := EqAt.str_str (A := A) (s := s) ⟨x.toArray⟩ t ⟨y.toArray⟩ u
          have h' := RcAt.str_str (A := A) (s := s) ⟨x.toArray⟩ t ⟨y.toArray⟩ u
          rw [str_eq_iff, e] at h h'
          exact ⟨h', h⟩
        · cases e
      · cases e

theorem cmp_sound (ok0 : C.Ok) {op : CmpOp} {x y : V} {c : Bool} {a b : Value} {Q : Value → Shared → Prop} (hA : AOk A d) (G : Gd C.w C.L C.G β s.toks h s.heap) (e : cmpop C.X h op x y = some c) (ra : VR C.L β s.toks x a) (rb : VR C.L β s.toks y b)
    (k : ∀ T, s.toks ≤ T → Q (.bool c) { s with toks := T }) : wpAny (model C.prog C.w) A (compareOp op a b) Q E s := by
  have k0 : Q (.bool c) s := k s.toks (Nat.le_refl _)
  unfold cmpop at e
  split at e
  · split at e
    · obtain ⟨t, rfl⟩ := ra; obtain ⟨u, rfl⟩ := rb
      exact cmpI_sound e k0
    · cases e
  · split at e
    · obtain ⟨t, rfl, _⟩ := ra; obtain ⟨u, rfl, _⟩ := rb
      exact cmpS_sound e k0
    · cases e
  · split at e
    · split at e
      · rename_i hd
        cases e
        exact (deq_sound ok0 G 60 hd (by have := hA.un; omega) ra rb).1 C.prog C.w E Q k0
      · cases e
    · cases e
  · cases e

theorem sub_str {e i : Expr} {o j : Value} (hi : ∀ l u p, i ≠ .Slice l u none p) : subscripted i false o j = operate [o, j] (getItem o j) := by
  unfold subscripted
  split
  · rename_i h _; exact absurd rfl (hi _ _ _)
  · rename_i h; cases h
  · rfl
theorem noSlice {N : Nm} : ∀ (e : ME) (l u : Option Expr) (p : Pos), e.back N ≠ .Slice l u none p := by
  intro e l u p
  cases e <;> (try (intro h; cases h))
  rename_i sp ks vs p'
  cases sp <;> (intro h; cases h)

theorem idx_sound (ok0 : C.Ok) {x y v : V} {a b : Value} {ve se : Expr} (G : Gd C.w C.L C.G β s.toks h s.heap) (e : idxv C.X h x y = some v) (ra : VR C.L β s.toks x a) (rb : VR C.L β s.toks y b) (hs : ∀ l u p, se ≠ .Slice l u none p)
    (pst : Pst C s β h v Q) : wpAny (model C.prog C.w) A (subscriptTail ve se a b) Q E s := by
  have onObj : ∀ {o : O} {i : Int} {j : Nat} {x : V}, VR C.L β s.toks x a → VR C.L β s.toks (.int i) b → obj C.X h x = some o → (∀ vs, o = .list vs ∨ o = .tup vs → (nidx i vs.length).bind (fun j => vs[j]?) = some v) → (∃ vs, o = .list vs ∨ o = .tup vs) →
      wpAny (model C.prog C.w) A (subscriptTail ve se a b) Q E s := by
    intro o i j x ra rb ho hv hvs
    obtain ⟨u, rfl⟩ := rb
    obtain ⟨a, ob, rfl, q, z, lo⟩ := obj_at ok0 G ho ra
    obtain ⟨vs, hvs⟩ := hvs
    obtain ⟨j, hj, hvj⟩ := bind_some (hv vs hvs)
    obtain ⟨h1, h2, h3, h4⟩ := nidx_is hj
    rcases hvs with rfl | rfl
    · obtain ⟨items, hl, al, le⟩ := OR.isList q z
      obtain ⟨y, hy, r⟩ := al.get hvj
      have hy' : items[j]? = some y := by rw [← Array.getElem?_toList]; exact hy
      have hsz : items.size = vs.length := by rw [← Array.length_toList, al.length]
      refine tail_any hl.typeIs slot_list_getitem.lookup ?_ (sub_str (e := ve) hs)
      unfold LIM at le
      by_cases h0 : 0 ≤ i
      · refine wpAny_getItem_list hl h0 (by omega) ?_ (pst.here G r)
        unfold nidx at hj
        rw [if_pos h0] at hj
        split at hj
        · cases hj; exact hy'
        · cases hj
      · refine wpAny_getItem_list_neg hl (by omega) (by omega) (by omega) ?_ (pst.here G r)
        unfold nidx at hj
        rw [if_neg h0] at hj
        split at hj
        · cases hj; rw [hsz]; exact hy'
        · cases hj
    · obtain ⟨items, n, dd, sl, rfl, al, le⟩ := z
      obtain ⟨y, hy, r⟩ := al.get hvj
      have hsz : items.size = vs.length := by rw [← Array.length_toList, al.length]
      have hy' : items[j]? = some y := by rw [← Array.getElem?_toList]; exact hy
      unfold LIM at le
      have h5 : -(2 ^ 63) ≤ i := by omega
      have h6 : i < 2 ^ 63 := by omega
      exact item_tupleT (l := items.toList) ⟨_, q, rfl, n, by simp⟩ h5 h6 (j := j) (by rw [Array.length_toList, hsz]; exact h1) hy (pst.here G r) (sub_str (e := ve) hs)
  unfold idxv at e
  split at e
  · split at e
    · rename_i l
      obtain ⟨c, e1, e2⟩ := map_some e
      obtain ⟨j, hj, hc⟩ := bind_some e1
      obtain ⟨h1, h2, h3, h4⟩ := nidx_is hj
      cases e2
      obtain ⟨t, rfl, _, _, hl⟩ := ra
      obtain ⟨u, rfl⟩ := rb
      unfold LIM at hl
      refine tail_any (typeIs_str _ _ _) F.slot_str_getitem.lookup (PySem.P.getItem_str (c := c) ?_ ?_ (pst.same G (Nat.le_succ _) ⟨_, rfl, G.pos, Nat.lt_succ_self _, by unfold LIM; simp⟩)) (sub_str (e := ve) hs)
      · simp; omega
      · have : (⟨l.toArray⟩ : Str).length = l.length := by simp [Str.length]
        rw [this, h1]
        simpa using hc
    · obtain ⟨o, ho, e⟩ := bind_some e
      cases o with
      | list vs => exact onObj ra rb ho (fun vs' h' => by rcases h' with h' | h' <;> cases h'; exact e) ⟨vs, .inl rfl⟩ (j := 0)
      | tup vs => exact onObj ra rb ho (fun vs' h' => by rcases h' with h' | h' <;> cases h'; exact e) ⟨vs, .inr rfl⟩ (j := 0)
      | dict _ _ _ => cases e
  · cases e
end
end Mine

end

section
open PySem PySem.Calls PyProof.Rows PySem.W
namespace Mine

abbrev dictO (ents : List DictEntry) (ep : Nat) : Obj := ⟨.type "dict", none, .dict ents.toArray ep, #[]⟩
/-- a store into the entries -/
noncomputable def putD (k : List Nat) (t : Tok) (hash : Int) (x : Value) : List DictEntry → List DictEntry
  | [] => [⟨hash, .str ⟨k.toArray⟩ t, x⟩]
  | e :: r => if Value.isStrOf ⟨k.toArray⟩ e.key = true then { e with val := x } :: r else e :: putD k t hash x r
theorem putD_some {k : List Nat} {t : Tok} {hash : Int} {x : Value} : ∀ {ents : List DictEntry} {i : Nat}, (ents.findIdx? fun e => Value.isStrOf ⟨k.toArray⟩ e.key) = some i → ents.modify i (fun e => { e with val := x }) = putD k t hash x ents
  | [], _, h => by simp at h
  | e :: r, i, h => by
    rw [List.findIdx?_cons] at h
    unfold putD
    split at h
    · rename_i hk; cases h; rw [if_pos hk]; rfl
    · rename_i hk
      rw [if_neg hk]
      obtain ⟨j, hj, rfl⟩ := Option.map_eq_some_iff.mp h
      rw [← putD_some hj]; rfl
theorem putD_none {k : List Nat} {t : Tok} {hash : Int} {x : Value} : ∀ {ents : List DictEntry}, (ents.findIdx? fun e => Value.isStrOf ⟨k.toArray⟩ e.key) = none → ents ++ [⟨hash, .str ⟨k.toArray⟩ t, x⟩] = putD k t hash x ents
  | [], _ => rfl
  | e :: r, h => by
    rw [List.findIdx?_cons] at h
    unfold putD
    split at h
    · cases h
    · rename_i hk
      rw [if_neg hk, ← putD_none (Option.map_eq_none_iff.mp h)]; rfl
section
variable {C : Cx} {A : Around} {h : Hp} {v : V} {s : Shared} {β : List Addr} {E : Value → Shared → Prop}

/-- where the key stands: the same on both sides -/
theorem find_idx {w : World} {L : Pl} {T : Nat} {rep : Bool} (k : List Nat) : ∀ {es : List (List Nat × V)} {ents : List DictEntry}, All2 (ER w L β T rep) es ents →
    (ents.findIdx? fun e => Value.isStrOf ⟨k.toArray⟩ e.key) = (es.findIdx? fun e => e.1 == k)
  | [], [], _ => rfl
  | e :: es, d :: ents, al => by
    obtain ⟨t, h1, _⟩ := al.1
    rw [List.findIdx?_cons, List.findIdx?_cons, h1, isStrOf_key, find_idx k al.2]
  | [], _ :: _, al => al.elim
  | _ :: _, [], al => al.elim
theorem ER_weak {w : World} {L : Pl} {β' : List Addr} {T T' : Nat} {rep rep' : Bool} (hp : Pre β β') (ht : T ≤ T') (hr : rep' = true → rep = true) {e : List Nat × V} {d : DictEntry} : ER w L β T rep e d → ER w L β' T' rep' e d
  | ⟨t, a, b, c, d0, d1, d2, f⟩ => ⟨t, a, b, c.mono hp ht, d0, Nat.lt_of_lt_of_le d1 ht, d2, fun z => f (hr z)⟩
theorem dictSet_at {d : Addr} {ents : List DictEntry} {ep : Nat} {k : List Nat} {t : Tok} {x : Value} {Q : Unit → Shared → Prop} (ho : s.heap.get? d = some (dictO ents ep)) (hk : ∀ e ∈ ents, ∃ k, Value.isStrOf k e.key = true ∧ e.hash = hashStr C.w k)
    (hsz : ents.length ≤ LIM)
    (k1 : ∀ H', H'.get? d = some (dictO (putD k t (hashStr C.w ⟨k.toArray⟩) x ents) (if (ents.findIdx? fun e => Value.isStrOf ⟨k.toArray⟩ e.key) = none then ep + 1 else ep)) → Heap.SameBut d s.heap H' → Q () { s with heap := H', toks := s.toks + 1 }) :
    wpAny (model C.prog C.w) A (dictSet d (.str ⟨k.toArray⟩ t) x) Q E s := by
  have hkey : (strKind C.prog C.w).is ⟨k.toArray⟩ (.str ⟨k.toArray⟩ t) = true := beq_self_eq_true _
  have hko : KeysOf (strKind C.prog C.w) ents.toArray := fun e he => hk e (by simpa using he)
  unfold dictSet
  try with_reducible refine wpAny_holding ?_
  refine wpAny_bind ((strKind C.prog C.w).pyHash hkey ?_)
  unfold dictSetHashed
  try with_reducible refine wpAny_holding ?_
  refine wpAny_bind (wpAny_dictFind_of (s := { s with toks := s.toks + 1 }) hkey ho rfl hko ?_)
  have hix : (ents.toArray.findIdx? fun e => (strKind C.prog C.w).is ⟨k.toArray⟩ e.key) = ents.findIdx? fun e => Value.isStrOf ⟨k.toArray⟩ e.key := by simp; rfl
  rw [hix]
  cases hi : ents.findIdx? fun e => Value.isStrOf ⟨k.toArray⟩ e.key with
  | some i =>
    refine wpAny_bind (wpAny_rule (wpAny_bind (wpAny_updateDict (s := { s with toks := s.toks + 1 }) ho rfl (wpAny_point (k1 _ ?_ (Heap.SameBut.update ..))))))
    refine (Heap.get?_update_self _ ho (by rfl)).trans ?_
    rw [hi, if_neg (by simp), ← putD_some hi]
    simp [Obj.mapDict, dictO]
  | none =>
    refine wpAny_bind (wpAny_rule (wpAny_updateDictKeys (hz := by rw [sizeLine_eq]; unfold LIM at hsz; simpa using hsz) (s := { s with toks := s.toks + 1 }) ho rfl (k1 _ ?_ (Heap.SameBut.update ..))))
    refine (Heap.get?_update_self _ ho (by rfl)).trans ?_
    rw [hi, if_pos rfl, ← putD_none hi]
    simp [Obj.mapDictKeys, dictO]
    rfl

end
end Mine

end

section
open PySem PySem.Calls PyProof.Rows PySem.W
namespace Mine
open PySem.Builtin PySem.Builtin.Str

structure Gw (w : Writer) (T : Str) : Prop where
  text : w.text = T
  total : w.total = T.length
  whole : w.whole = none
  ne : w.pieces.isEmpty = false
theorem gw_first {x : Str} (hx : (x.length == 0) = false) : Gw (({} : Writer).add x none) x := by
  have e : ({} : Writer).add x none = { pieces := [x], total := 0 + x.length, whole := none } := by
    unfold Writer.add
    rw [if_neg (by rw [hx]; simp)]
    rfl
  rw [e]
  refine ⟨?_, by simp, rfl, rfl⟩
  show (⟨_⟩ : Str) = x
  exact Str.ext' (by simp)
theorem gw_add {w : Writer} {T x : Str} {o : Option Value} (g : Gw w T) : Gw (w.add x o) (T ++ x) := by
  by_cases hx : (x.length == 0) = true
  · have e : w.add x o = w := by unfold Writer.add; rw [if_pos hx]
    have hz : x.cps = #[] := Array.size_eq_zero_iff.mp (by simpa [PySem.Str.length] using hx)
    have ht : T ++ x = T := Str.ext' (by rw [Str.cps_append, hz, Array.append_empty])
    rw [e, ht]; exact g
  · have e : w.add x o = { pieces := x :: w.pieces, total := w.total + x.length, whole := none } := by
      unfold Writer.add
      rw [if_neg hx, g.ne]; rfl
    rw [e]
    refine ⟨?_, ?_, rfl, rfl⟩
    · have ht := g.text
      unfold Writer.text at ht ⊢
      simp only [List.reverse_cons, List.foldl_append, List.foldl_cons, List.foldl_nil]
      rw [← ht]
      exact Str.ext' (by rw [Str.cps_append])
    · show w.total + x.length = _
      rw [g.total, Str.length_append]
theorem gw_finish {M : Model} {A : Around} {E : Value → Shared → Prop} {s : Shared} {w : Writer} {T : Str} {id : String} {Q : Fin → Shared → Prop} (g : Gw w T) (hN : T.length ≤ 16777216)
    (h : Q (.done (.ret (.str T s.toks))) { s with toks := s.toks + 1 }) : wpAny M A (w.finish id) Q E s := by
  unfold Writer.finish
  rw [g.whole]
  refine wpAny_ite (KPc.ite_no (KPc.short (by rw [g.total]; exact hN)) ?_)
  rw [g.text]
  exact wpAny_bind (wpAny_mkStr (wpAny_pure h) (by rw [sizeLine_eq]; exact hN))

set_option maxRecDepth 100000 in
set_option maxHeartbeats 4000000 in
theorem pct_dq (y : Str) (t u : Tok) (hy : y.length ≤ 10000000) : Meets («str.__mod__» ⟨[.str ⟨#[34, 37, 115, 34]⟩ t, .str y u], []⟩)
    (fun _ R s => R (.ok (.ret (.str (⟨#[34]⟩ ++ y ++ ⟨#[34]⟩) s.toks))) { s with toks := s.toks + 1 }) := by
  refine Meets.of_wp fun prog w A _ s hS => ?_
  rw [KPc.entry_is_s]
  unfold Builtin.Str.percentFormat
  refine wpAny_bind (wpAny_isInstance (typeIs_str _ _ _) F.sub_str_tuple ?_)
  refine wpAny_bind (wpAny_of_eq (a := some _) rfl ?_)
  refine wpAny_bind (KPc.wp_fills_str ?_)
  intro _
  kpc_if
  refine wpAny_bind (wpAny_pure ?_)
  refine wpAny_bind ?_
  rw [KPc.range_list]
  refine KPc.turn ?_
  repeat kpc_if
  refine wpAny_pure ?_
  have g1 : Gw (({} : Writer).add ⟨#[34]⟩ none) ⟨#[34]⟩ := gw_first (by decide)
  refine KPc.turn ?_
  repeat kpc_if
  refine wpAny_bind ?_
  refine wpAny_holding ?_
  repeat kpc_if
  kpc_conv
  refine wpAny_pure ?_
  refine wpAny_pure ?_
  have g2 := gw_add (x := ⟨y.cps.toList.toArray⟩) (o := none) g1
  have hy2 : (⟨y.cps.toList.toArray⟩ : Str).length = y.length := by simp [Str.length]
  refine KPc.turn ?_
  refine wpAny_ite (KPc.ite_no (KPc.short ?_) ?_)
  · refine Nat.le_trans (Nat.le_of_eq g2.total) ?_
    rw [Str.length_append, hy2]
    have : (⟨#[34]⟩ : Str).length = 1 := rfl
    omega
  repeat kpc_if
  refine wpAny_pure ?_
  have g3 := gw_add (x := ⟨#[34]⟩) (o := none) g2
  have hl : (⟨#[34]⟩ ++ ⟨y.cps.toList.toArray⟩ ++ ⟨#[34]⟩ : Str).length ≤ 16777216 := by
    rw [Str.length_append, Str.length_append, hy2]
    have : (⟨#[34]⟩ : Str).length = 1 := rfl
    omega
  have e3 : (⟨y.cps.toList.toArray⟩ : Str) = y := congrArg PySem.Str.mk (Array.toArray_toList ..)
  rw [e3] at g3 hl
  refine KPc.turn ?_
  refine wpAny_ite (KPc.ite_no (KPc.short ?_) ?_)
  · refine Nat.le_trans (Nat.le_of_eq (by exact g3.total)) hl
  repeat kpc_if
  refine wpAny_pure ?_
  kpc_if
  refine gw_finish (by exact g3) hl ⟨_, rfl, hS⟩
set_option maxRecDepth 100000 in
set_option maxHeartbeats 4000000 in
theorem pct_sq (y : Str) (t u : Tok) (hy : y.length ≤ 10000000) : Meets («str.__mod__» ⟨[.str ⟨#[39, 37, 115, 39]⟩ t, .str y u], []⟩)
    (fun _ R s => R (.ok (.ret (.str (⟨#[39]⟩ ++ y ++ ⟨#[39]⟩) s.toks))) { s with toks := s.toks + 1 }) := by
  refine Meets.of_wp fun prog w A _ s hS => ?_
  rw [KPc.entry_is_s]
  unfold Builtin.Str.percentFormat
  refine wpAny_bind (wpAny_isInstance (typeIs_str _ _ _) F.sub_str_tuple ?_)
  refine wpAny_bind (wpAny_of_eq (a := some _) rfl ?_)
  refine wpAny_bind (KPc.wp_fills_str ?_)
  intro _
  kpc_if
  refine wpAny_bind (wpAny_pure ?_)
  refine wpAny_bind ?_
  rw [KPc.range_list]
  refine KPc.turn ?_
  repeat kpc_if
  refine wpAny_pure ?_
  have g1 : Gw (({} : Writer).add ⟨#[39]⟩ none) ⟨#[39]⟩ := gw_first (by decide)
  refine KPc.turn ?_
  repeat kpc_if
  refine wpAny_bind ?_
  refine wpAny_holding ?_
  repeat kpc_if
  kpc_conv
  refine wpAny_pure ?_
  refine wpAny_pure ?_
  have g2 := gw_add (x := ⟨y.cps.toList.toArray⟩) (o := none) g1
  have hy2 : (⟨y.cps.toList.toArray⟩ : Str).length = y.length := by simp [Str.length]
  refine KPc.turn ?_
  refine wpAny_ite (KPc.ite_no (KPc.short ?_) ?_)
  · refine Nat.le_trans (Nat.le_of_eq g2.total) ?_
    rw [Str.length_append, hy2]
    have : (⟨#[39]⟩ : Str).length = 1 := rfl
    omega
  repeat kpc_if
  refine wpAny_pure ?_
  have g3 := gw_add (x := ⟨#[39]⟩) (o := none) g2
  have hl : (⟨#[39]⟩ ++ ⟨y.cps.toList.toArray⟩ ++ ⟨#[39]⟩ : Str).length ≤ 16777216 := by
    rw [Str.length_append, Str.length_append, hy2]
    have : (⟨#[39]⟩ : Str).length = 1 := rfl
    omega
  have e3 : (⟨y.cps.toList.toArray⟩ : Str) = y := congrArg PySem.Str.mk (Array.toArray_toList ..)
  rw [e3] at g3 hl
  refine KPc.turn ?_
  refine wpAny_ite (KPc.ite_no (KPc.short ?_) ?_)
  · refine Nat.le_trans (Nat.le_of_eq (by exact g3.total)) hl
  repeat kpc_if
  refine wpAny_pure ?_
  kpc_if
  refine gw_finish (by exact g3) hl ⟨_, rfl, hS⟩

section
variable {C : Cx} {A : Around} {h : Hp} {v : V} {s : Shared} {β : List Addr} {Q : Value → Shared → Prop} {E : Value → Shared → Prop}
theorem pct_sound {f x : List Nat} {t u : Tok} (G : Gd C.w C.L C.G β s.toks h s.heap) (e : binop .Mod (.str f) (.str x) = some v) (pst : Pst C s β h v Q) :
    wpAny (model C.prog C.w) A (binaryOp .Mod (.str ⟨f.toArray⟩ t) (.str ⟨x.toArray⟩ u)) Q E s := by
  simp only [binop, binS] at e
  split at e
  · rename_i hl
    have hl' : (⟨x.toArray⟩ : Str).length ≤ 10000000 := by simpa [Str.length] using hl
    split at e
    · rename_i hf
      cases e
      have hf' : f = [34, 37, 115, 34] := hf.trans (by decide +kernel)
      subst hf'
      refine binaryOp_meets (T := "str") (op := .Mod) (typeIs_str s _ t) (typeIs_str s _ u) F.fills_str_mod F.slot_str_mod F.entry_str_mod (F.args_str_mod_2 _ _) (pct_dq _ t u hl') ?_
      refine ⟨(fun e => nomatch e), pst.same G (Nat.le_succ _) ⟨_, ?_, G.pos, Nat.lt_succ_self _, by simp; unfold LIM; omega⟩⟩
      congr 1
      exact Str.ext' (by rw [Str.cps_append, Str.cps_append]; simp)
    · split at e
      · rename_i hf
        cases e
        have hf' : f = [39, 37, 115, 39] := hf.trans (by decide +kernel)
        subst hf'
        refine binaryOp_meets (T := "str") (op := .Mod) (typeIs_str s _ t) (typeIs_str s _ u) F.fills_str_mod F.slot_str_mod F.entry_str_mod (F.args_str_mod_2 _ _) (pct_sq _ t u hl') ?_
        refine ⟨(fun e => nomatch e), pst.same G (Nat.le_succ _) ⟨_, ?_, G.pos, Nat.lt_succ_self _, by simp; unfold LIM; omega⟩⟩
        congr 1
        exact Str.ext' (by rw [Str.cps_append, Str.cps_append]; simp)
      · cases e
  · cases e
end
end Mine

end

section
open PySem PySem.Calls PyProof.Rows PySem.W
namespace Mine
section
variable {C : Cx} {N : Nm} {sc : Scope} {env : Env} {A₀ : Addr} {A : Around} {d : Nat} {m : M} {h h' : Hp} {v : V} {s : Shared} {β : List Addr} {Q : Value → Shared → Prop} {E : Value → Shared → Prop} {S : Sm}

theorem with_toks {α : Type} {M : Model} {A : Around} {t : Sem α} {Q : α → Shared → Prop} {E : Value → Shared → Prop} (h : wpAny M A t (fun x s' => s.toks ≤ s'.toks → Q x s') E s) : wpAny M A t Q E s :=
  wpAny_mono (wpAny_toks_of (Nat.le_refl _) h) (fun a s' h => h.2 h.1) (fun e s' h => h.2)

theorem rep_sound (ok0 : C.Ok) {l y z : List Nat} {x : Value} {u v' : Tok} (G : Gd C.w C.L C.G β s.toks h s.heap) (rx : VR C.L β s.toks (.str l) x) (hu : 0 < u) (hv : 0 < v') (huv : u ≠ v') (hy : y ≠ [])
    (hl : l.length + (l.length + 1) * z.length ≤ LIM) (pst : Pst C s β h (.str (replace y z l)) Q) :
    wpAny (model C.prog C.w) A (call (.builtin "str.replace") [x, .str ⟨y.toArray⟩ u, .str ⟨z.toArray⟩ v']) Q E s := by
  obtain ⟨t, rfl, t0, t1, tl⟩ := rx
  have hb : NoneBooked s.heap := by
    obtain ⟨mc, h1, h2⟩ := ok0.booked
    exact ⟨mc, h1.keeps G.base, h2⟩
  have hxl : (⟨l.toArray⟩ : Str).length = l.length := by simp [Str.length]
  have hzl : (⟨z.toArray⟩ : Str).length = z.length := by simp [Str.length]
  have hll : Builtin.Str.tooLong ((⟨l.toArray⟩ : Str).length + (Builtin.Str.occurrences ⟨l.toArray⟩ ⟨y.toArray⟩ 0 (⟨l.toArray⟩ : Str).length ((⟨l.toArray⟩ : Str).length + 1)).length * (⟨z.toArray⟩ : Str).length) = false := by
    have h1 := StrLaws.occ_length_le ⟨l.toArray⟩ ⟨y.toArray⟩ 0 (⟨l.toArray⟩ : Str).length ((⟨l.toArray⟩ : Str).length + 1)
    have h2 := Nat.mul_le_mul_right (⟨z.toArray⟩ : Str).length h1
    unfold Builtin.Str.tooLong sizeLine
    unfold LIM at hl
    rw [hzl, hxl] at *
    exact decide_eq_false (by omega)
  have hrl : (replace y z l).length ≤ LIM := by
    have := replace_len (z := z) (l := l) hy
    rw [Nat.succ_mul] at hl
    omega
  refine call_givesAt F.slot_str_replace (typeIs_str _ _ _) F.entry_str_replace (F.args_str_replace_3 _ _ _) (gives_str_replace2 ⟨l.toArray⟩ ⟨y.toArray⟩ ⟨z.toArray⟩ t u v' fun _ => ⟨by simp; exact ⟨Nat.ne_of_gt hu, Nat.ne_of_gt hv⟩, by simp [huv], hll⟩) hb ?_
  have key := replace_is (l := l) (z := z) hy
  unfold Txt.replace at key
  cases hc : ((Builtin.Str.occurrences ⟨l.toArray⟩ ⟨y.toArray⟩ 0 (⟨l.toArray⟩ : Str).length ((⟨l.toArray⟩ : Str).length + 1)).isEmpty || ((⟨y.toArray⟩ : Str).length == 0 && (⟨z.toArray⟩ : Str).length == 0))
  · rw [hc] at key
    simp only [Bool.false_eq_true, if_false] at key ⊢
    have fresh : (Made.str (Builtin.Str.glued ⟨z.toArray⟩ (Builtin.Str.partsBetween ⟨l.toArray⟩ (Builtin.Str.occurrences ⟨l.toArray⟩ ⟨y.toArray⟩ 0 (⟨l.toArray⟩ : Str).length ((⟨l.toArray⟩ : Str).length + 1)) (⟨y.toArray⟩ : Str).length))).post Q s := by
      rw [key]
      refine ⟨by rw [sizeLine_eq]; simp [Str.length]; exact hrl, pst.same G (Nat.le_succ _) ⟨_, rfl, G.pos, Nat.lt_succ_self _, hrl⟩⟩
    cases hyz : ((⟨y.toArray⟩ : Str) == ⟨z.toArray⟩)
    · simp only [Bool.false_eq_true, if_false]
      exact fresh
    · simp only [if_true]
      refine ⟨?_, fresh⟩
      have e : (⟨y.toArray⟩ : Str) = ⟨z.toArray⟩ := eq_of_beq hyz
      have key2 := replace_is (l := l) (z := z) hy
      rw [← e, Txt.replace_self] at key2
      exact pst.here G ⟨t, by rw [key2], t0, t1, hrl⟩
  · rw [hc] at key
    simp only [if_true] at key ⊢
    exact pst.here G ⟨t, by rw [key], t0, t1, hrl⟩

theorem star_plain : ∀ as : MEs, starEach (as.back N) env = (as.back N).map fun e => (false, eval e env)
  | .nil => rfl
  | .cons e r => by
    have : starEach (e.back N :: r.back N) env = (false, eval (e.back N) env) :: starEach (r.back N) env := by
      cases e <;> (try rfl)
      rename_i sp ks vs p
      cases sp <;> rfl
    show starEach (e.back N :: r.back N) env = _
    rw [this, star_plain r]; rfl
theorem back_plain (pos : Pos) (l : List Expr) : backTo pos (l.map fun e => (false, eval e env)) = l.map fun e => (false, eval e env) := by
  simp [backTo]
theorem trees (pos : Pos) (as : MEs) : backTo pos (starEach (as.back N) env) = (as.back N).map fun e => (false, eval e env) := by rw [star_plain, back_plain]

noncomputable def PstL (C : Cx) (s : Shared) (β : List Addr) (h' : Hp) (vs : List V) (Q : List Value → Shared → Prop) : Prop :=
  ∀ xs β' H' T', s.toks ≤ T' → Ext β s.heap β' H' → Gd C.w C.L C.G β' T' h' H' → All2 (VR C.L β' T') vs xs → Q xs { s with heap := H', toks := T' }

theorem args_sound (ih : SEv C S d) (V₀ : EnvOk C N sc env A₀) (hA : AOk A d) : ∀ (as : MEs) (h h' : Hp) (vs : List V), as.ok N sc = true → evs S as m h = some (vs, h') → ∀ (s : Shared) (β : List Addr) (Q : List Value → Shared → Prop) (E : Value → Shared → Prop), Gd C.w C.L C.G β s.toks h s.heap → Frm C.L C.G N β s.toks m A₀ s.heap →
    PstL C s β h' vs Q → wpAny (model C.prog C.w) A (spliced ((as.back N).map fun e => (false, eval e env))) Q E s
  | .nil, h, h', vs, _, e, s, β, Q, E, G, F, pst => by
    cases e
    exact spliced_nil (pst [] β s.heap s.toks (Nat.le_refl _) (Ext.refl _ _) G trivial)
  | .cons x r, h, h', vs, ok, e, s, β, Q, E, G, F, pst => by
    obtain ⟨⟨v, h1⟩, e1, e2⟩ := bind_some e
    obtain ⟨⟨vs', h2⟩, e3, e4⟩ := bind_some e2
    cases e4
    have ok' := Bool.and_eq_true_iff.mp ok
    refine spliced_cons (ih x N sc env A₀ A m h h1 v ok'.1 V₀ hA e1 s β _ E G F fun y β1 H1 T1 t1 x1 g1 r1 => ?_)
    refine args_sound ih V₀ hA r h1 h' vs' ok'.2 e3 { s with heap := H1, toks := T1 } β1 _ E g1 (F.ext x1 t1) fun ys β2 H2 T2 t2 x2 g2 r2 => ?_
    exact pst (y :: ys) β2 H2 T2 (Nat.le_trans t1 t2) (x1.trans x2) g2 ⟨r1.mono x2.pre t2, r2⟩

theorem withB {id : String} {first : List Value} {pos : Pos} {as : MEs} (hp : wpAny (model C.prog C.w) A (spliced ((as.back N).map fun e => (false, eval e env))) (fun xs s' => wpAny (model C.prog C.w) A (call (.builtin id) (first ++ xs)) Q E s') E s) :
    wpAny (model C.prog C.w) A (callWith pos (.builtin id) first (backTo pos (starEach (as.back N) env)) []) Q E s := by
  rw [trees]
  refine callWith_builtin (by simp) ?_
  cases as with
  | nil =>
    refine PySem.evalArgs_none ?_
    have := hp
    simp only [MEs.back, List.map_nil] at this
    exact fun Γ p hΓ => (this Γ p hΓ) Γ p hΓ
  | cons x r => exact evalArgs_plain hp
end
end Mine

end

section
open PySem PySem.Calls PyProof.Rows PySem.W
namespace Mine

/-- written pairs as they are evaluated, one behind the other -/
noncomputable def CRs (L : Pl) (T T' : Nat) : List (List Nat × V) → List (Value × Value) → Prop
  | [], [] => T ≤ T'
  | p :: es, kv :: r => ∃ t T2, kv.1 = .str ⟨p.1.toArray⟩ t ∧ T ≤ t ∧ t < T2 ∧ VR L [] T2 p.2 kv.2 ∧ (∀ y u, kv.2 = .str y u → u ≠ t) ∧ 0 < t ∧ p.1.length ≤ LIM ∧ CRs L T2 T' es r
  | _, _ => False
theorem CRs.le {L : Pl} : ∀ {es : List (List Nat × V)} {r : List (Value × Value)} {T T' : Nat}, CRs L T T' es r → T ≤ T'
  | [], [], _, _, h => h
  | _ :: _, _ :: _, _, _, ⟨t, T2, _, h1, h2, _, _, _, _, h3⟩ => by
    have := CRs.le h3
    exact Nat.le_trans (Nat.le_of_lt (Nat.lt_of_le_of_lt h1 h2)) this
  | [], _ :: _, _, _, h => h.elim
  | _ :: _, [], _, _, h => h.elim
theorem CRs.len {L : Pl} : ∀ {es : List (List Nat × V)} {r : List (Value × Value)} {T T' : Nat}, CRs L T T' es r → es.length = r.length
  | [], [], _, _, h => rfl
  | _ :: _, _ :: _, _, _, ⟨t, T2, _, h1, h2, _, _, _, _, h3⟩ => by rw [List.length_cons, List.length_cons, CRs.len h3]
  | [], _ :: _, _, _, h => h.elim
  | _ :: _, [], _, _, h => h.elim

/-- the trees of written pairs -/
noncomputable def pairTrees (N : Nm) (env : Env) (pos : Pos) : MEs → MEs → List (Sem Value × Sem Value)
  | .cons k ks, .cons v vs => (eval (k.back N) env, do let x ← eval (v.back N) env; standAt pos; pure x) :: pairTrees N env pos ks vs
  | _, _ => []
theorem cstOf_inv {e : ME} {c : C0} (h : e.cstOf = some c) : ∃ p, e = .cst c p := by
  cases e <;> first | (cases h; exact ⟨_, rfl⟩) | (exfalso; cases h)
theorem strOf_inv {e : ME} {s : String} (h : e.strOf = some s) : ∃ p, e = .cst (.str s) p := by
  obtain ⟨c, h1, h2⟩ := bind_some h
  obtain ⟨p, rfl⟩ := cstOf_inv h1
  cases c <;> first | (cases h2; exact ⟨_, rfl⟩) | (exfalso; cases h2)
theorem two_inv {as r : MEs} {a : ME} (h : as.two = some (a, r)) : as = .cons a r := by
  cases as with
  | nil => cases h
  | cons b t => cases h; rfl
theorem two_nil {as : MEs} (h : as.two = none) : as = .nil := by
  cases as with
  | nil => rfl
  | cons b t => cases h
theorem pairs_inv {ks vs : MEs} {es : List (List Nat × V)} (e : pairs ks vs = some es) : (ks = .nil ∧ vs = .nil ∧ es = []) ∨ ∃ k p c q ks' vs' r, ks = .cons (.cst (.str k) p) ks' ∧ vs = .cons (.cst c q) vs' ∧ pairs ks' vs' = some r ∧ es = (lit k, c.val) :: r := by
  cases ks with
  | nil =>
    cases h : vs.two with
    | none =>
      rw [pairs, h] at e
      cases e
      exact .inl ⟨rfl, two_nil h, rfl⟩
    | some q => rw [pairs, h] at e; cases e
  | cons k ks =>
    rw [pairs] at e
    obtain ⟨⟨v, vs'⟩, h1, e⟩ := bind_some e
    obtain ⟨s, h2, e⟩ := bind_some e
    obtain ⟨c, h3, e⟩ := bind_some e
    obtain ⟨r, h4, rfl⟩ := map_some e
    obtain ⟨p, rfl⟩ := strOf_inv h2
    obtain ⟨q, rfl⟩ := cstOf_inv h3
    exact .inr ⟨s, p, c, q, ks, vs', r, rfl, two_inv h1, h4, rfl⟩
theorem pairTrees_zip {N : Nm} {env : Env} {pos : Pos} : ∀ {es : List (List Nat × V)} {ks vs : MEs}, pairs ks vs = some es →
    (evalEachOpt (ks.backSome N) env).zip ((evalEach (vs.back N) env).map fun v => do let x ← v; standAt pos; pure x) = (pairTrees N env pos ks vs).map fun p => (some p.1, p.2)
  | [], ks, vs, e => by
    rcases pairs_inv e with ⟨rfl, rfl, _⟩ | ⟨_, _, _, _, _, _, _, _, _, _, h⟩
    · rfl
    · cases h
  | a :: es, ks, vs, e => by
    rcases pairs_inv e with ⟨_, _, h⟩ | ⟨k, p, c, q, ks', vs', r, rfl, rfl, h1, h2⟩
    · cases h
    · cases h2
      have := pairTrees_zip (N := N) (env := env) (pos := pos) h1
      show (_ :: evalEachOpt (ks'.backSome N) env).zip (_ :: (evalEach (vs'.back N) env).map _) = _
      rw [List.zip_cons_cons, this]; rfl
theorem pairTrees_len {N : Nm} {env : Env} {pos : Pos} : ∀ {ks vs : MEs}, (pairTrees N env pos ks vs).length ≤ ks.len
  | .nil, .nil => Nat.le_refl _
  | .nil, .cons _ _ => Nat.le_refl _
  | .cons _ _, .nil => Nat.zero_le _
  | .cons _ ks, .cons _ vs => by
    show (pairTrees N env pos ks vs).length + 1 ≤ ks.len + 1
    exact Nat.succ_le_succ pairTrees_len
theorem pairs_len : ∀ {es : List (List Nat × V)} {ks vs : MEs}, pairs ks vs = some es → es.length = ks.len ∧ es.map (·.1) = ks.keys
  | [], ks, vs, e => by
    rcases pairs_inv e with ⟨rfl, rfl, _⟩ | ⟨_, _, _, _, _, _, _, _, _, _, h⟩
    · exact ⟨rfl, rfl⟩
    · cases h
  | a :: es, ks, vs, e => by
    rcases pairs_inv e with ⟨_, _, h⟩ | ⟨k, p, c, q, ks', vs', r, rfl, rfl, h1, h2⟩
    · cases h
    · cases h2
      obtain ⟨a, b⟩ := pairs_len h1
      exact ⟨by rw [List.length_cons, a]; rfl, by rw [List.map_cons, b]; rfl⟩

section
variable {C : Cx} {N : Nm} {sc : Scope} {env : Env} {A₀ : Addr} {A : Around} {d : Nat} {m : M} {h h' : Hp} {v : V} {s : Shared} {β : List Addr} {E : Value → Shared → Prop} {S : Sm}

/-- written texts are short -/
noncomputable def short (es : MEs) : Prop := es.short = true
theorem short.tail {c : C0} {q : Pos} {r : MEs} (h : short (.cons (.cst c q) r)) : short r := (Bool.and_eq_true_iff.mp h).2
theorem short.str {k : String} {q : Pos} {r : MEs} (h : short (.cons (.cst (.str k) q) r)) : (lit k).length ≤ LIM :=
  Nat.le_trans (of_decide_eq_true (Bool.and_eq_true_iff.mp h).1) (by decide)
theorem cst_pair {c : C0} {q pos : Pos} {Q : Value → Shared → Prop} (hl : ∀ x, c = .str x → (lit x).length ≤ LIM) (h0 : 0 < s.toks)
    (k : ∀ x T, s.toks ≤ T → VR C.L [] T c.val x → (∀ y u, x = .str y u → s.toks ≤ u) → Q x { s with toks := T }) :
    wpAny (model C.prog C.w) A (do let x ← eval ((ME.cst c q).back N) env; standAt pos; pure x) Q E s := by
  have fin : ∀ {Q : Value → Shared → Prop}, (∀ x T, s.toks ≤ T → VR C.L [] T c.val x → (∀ y u, x = .str y u → s.toks ≤ u) → Q x { s with toks := T }) → GE C N env A Q E s (ME.cst c q) := by
    intro Q k
    cases c with
    | none => exact fun _ _ _ => k .none s.toks (Nat.le_refl _) rfl (fun _ _ e => nomatch e)
    | bool b => exact fun _ _ _ => k (.bool b) s.toks (Nat.le_refl _) rfl (fun _ _ e => nomatch e)
    | int i => exact wpAny_Constant_int (k _ _ (Nat.le_succ _) ⟨_, rfl⟩ (fun _ _ e => nomatch e))
    | str x => exact Constant_str (k _ _ (Nat.le_succ _) (vr_lit x h0 (Nat.lt_succ_self _) (hl x rfl)) (fun y u e => by cases e; exact Nat.le_refl _))
  exact wpAny_bind (fin fun x T a b c => wpAny_bind (wpAny_standAt (wpAny_pure (k x T a b c))))

theorem evalPairs_sound {pos : Pos} : ∀ {es : List (List Nat × V)} {ks vs : MEs}, pairs ks vs = some es → short ks → short vs → ∀ (s : Shared) (Q : List (Value × Value) → Shared → Prop), 0 < s.toks →
    (∀ kvs T, CRs C.L s.toks T es kvs → Q kvs { s with toks := T }) → wpAny (model C.prog C.w) A (evalPairs (pairTrees N env pos ks vs)) Q E s
  | [], ks, vs, e, _, _, s, Q, h0, k => by
    rcases pairs_inv e with ⟨rfl, rfl, _⟩ | ⟨_, _, _, _, _, _, _, _, _, _, h⟩
    · exact evalPairs_nil (k [] s.toks (Nat.le_refl _))
    · cases h
  | a :: es, ks, vs, e, hs1, hs2, s, Q, h0, k => by
    rcases pairs_inv e with ⟨_, _, h⟩ | ⟨key, p, c, q, ks', vs', r, rfl, rfl, h1, h2⟩
    · cases h
    · cases h2
      refine evalPairs_cons (Constant_str ?_)
      refine cst_pair (s := { s with toks := s.toks + 1 }) (fun x hx => by subst hx; exact hs2.str) (Nat.succ_pos _) fun x T a b c' => ?_
      refine evalPairs_sound h1 hs1.tail hs2.tail { s with toks := T } _ (Nat.lt_of_lt_of_le (Nat.succ_pos _) a) fun kvs T' hc => ?_
      refine k _ T' ⟨s.toks, T, rfl, Nat.le_refl _, a, b, fun y u e => ?_, h0, hs1.str, hc⟩
      have := c' y u e
      exact Nat.ne_of_gt this

theorem nokey_idx {w : World} {L : Pl} {T : Nat} {rep : Bool} {k : List Nat} {es : List (List Nat × V)} {ents : List DictEntry} (al : All2 (ER w L β T rep) es ents) (hn : k ∉ es.map (·.1)) : (ents.findIdx? fun e => Value.isStrOf ⟨k.toArray⟩ e.key) = none := by
  rw [find_idx k al, List.findIdx?_eq_none_iff]
  intro e he
  refine beq_eq_false_iff_ne.mpr fun q => hn (q ▸ List.mem_map_of_mem he)
theorem putD_new {k : List Nat} {t : Tok} {hash : Int} {x : Value} {ents : List DictEntry} (hn : (ents.findIdx? fun e => Value.isStrOf ⟨k.toArray⟩ e.key) = none) : putD k t hash x ents = ents ++ [⟨hash, .str ⟨k.toArray⟩ t, x⟩] := (putD_none hn).symm

theorem store_all {dd : Addr} : ∀ (es : List (List Nat × V)) (kvs : List (Value × Value)) (acc : List (List Nat × V)) (ents : List DictEntry) (ep T T' : Nat) (s : Shared) (Q : PUnit → Shared → Prop), CRs C.L T T' es kvs → All2 (ER C.w C.L [] T true) acc ents →
    ((acc ++ es).map (·.1)).Nodup → acc.length + es.length ≤ LIM → s.heap.get? dd = some (dictO ents ep) →
    (∀ H' ents', H'.get? dd = some (dictO ents' (ep + es.length)) → All2 (ER C.w C.L [] T' true) (acc ++ es) ents' → Heap.SameBut dd s.heap H' → Q ⟨⟩ { s with heap := H', toks := s.toks + kvs.length }) →
    wpAny (model C.prog C.w) A (forIn kvs PUnit.unit fun (x : Value × Value) (_ : PUnit) => (do dictSet dd x.1 x.2; pure (ForInStep.yield PUnit.unit) : Sem (ForInStep PUnit))) Q E s
  | [], [], acc, ents, ep, T, T', s, Q, hc, al, nd, sz, ho, k => by
    rw [List.forIn_nil]
    exact wpAny_pure (k s.heap ents (by simpa using ho) (by simpa using al.mono fun _ _ => ER.mono (Pre.refl _) hc) (Heap.SameBut.refl _ _))
  | p :: es, kv :: kvs, acc, ents, ep, T, T', s, Q, hc, al, nd, sz, ho, k => by
    obtain ⟨t, T2, e1, h1, h2, h3, h4, h5, h6, h7⟩ := hc
    obtain ⟨kk, vv⟩ := kv
    cases e1
    have hnk : p.1 ∉ acc.map (·.1) := by
      rw [List.map_append, List.nodup_append] at nd
      exact fun hm => nd.2.2 _ hm p.1 (by simp) rfl
    have hno := nokey_idx al hnk
    rw [List.length_cons] at sz
    rw [List.forIn_cons]
    refine wpAny_bind (wpAny_bind (dictSet_at ho (fun e he => keys_dict al e he) (by rw [← al.length]; omega) fun H1 g1 s1 => wpAny_pure ?_))
    rw [hno, if_pos rfl, putD_new hno] at g1
    have al2 : All2 (ER C.w C.L [] T2 true) (acc ++ [p]) (ents ++ [⟨hashStr C.w ⟨p.1.toArray⟩, .str ⟨p.1.toArray⟩ t, vv⟩]) :=
      All2.append (al.mono fun _ _ => ER.mono (Pre.refl _) (Nat.le_of_lt (Nat.lt_of_le_of_lt h1 h2))) ⟨⟨t, rfl, rfl, h3, h5, h2, h6, fun _ y u e => h4 y u e⟩, trivial⟩
    refine store_all es kvs (acc ++ [p]) _ (ep + 1) T2 T' _ Q h7 al2 (by simpa using nd) (by simp; omega) g1 fun H' ents' a b c => ?_
    have := k H' ents' (by simpa [Nat.add_assoc, Nat.add_comm 1] using a) (by simpa using b) (s1.trans c)
    simpa [Nat.add_assoc, Nat.add_comm 1] using this
  | [], _ :: _, _, _, _, _, _, _, _, hc, _, _, _, _, _ => hc.elim
  | _ :: _, [], _, _, _, _, _, _, _, hc, _, _, _, _, _ => hc.elim

theorem subDict_sound {pos : Pos} {ks vs : MEs} {es : List (List Nat × V)} {Q : Addr → Shared → Prop} (e : pairs ks vs = some es) (h1 : short ks) (h2 : short vs) (hl : ks.len ≤ 15) (nd : ks.keys.Nodup) (h0 : 0 < s.toks)
    (k : ∀ H' ents T, s.toks ≤ T → H'.get? s.heap.objs.size = some (dictO ents es.length) → All2 (ER C.w C.L [] T true) es ents → (∀ b o, s.heap.get? b = some o → H'.get? b = some o) → Q s.heap.objs.size { s with heap := H', toks := T }) :
    wpAny (model C.prog C.w) A (subDict (pairTrees N env pos ks vs)) Q E s := by
  obtain ⟨el, ek⟩ := pairs_len e
  unfold subDict
  refine wpAny_bind (wpAny_alloc ?_)
  refine wpAny_bind (wpAny_holding ?_)
  rw [if_pos (Nat.le_trans pairTrees_len hl)]
  refine wpAny_bind (evalPairs_sound e h1 h2 { s with heap := s.heap.push { cls := .type "dict", data := .dict #[] } } _ h0 fun kvs T hc => ?_)
  refine wpAny_holding ?_
  have hT := hc.le
  refine wpAny_bind (store_all (dd := s.heap.objs.size) es kvs [] [] 0 s.toks T _ _ hc trivial (by simpa [ek] using nd) (by simp; unfold LIM; omega) (Heap.get?_push_size _ rfl) fun H' ents' a b c => wpAny_pure (wpAny_pure ?_))
  have c1 : ∀ b o, s.heap.get? b = some o → H'.get? b = some o := fun b o q => (c.2 b (Nat.ne_of_lt (Heap.lt_size q))).trans (Heap.get?_push_of_some _ q)
  refine k H' ents' (T + kvs.length) (Nat.le_trans hT (Nat.le_add_right _ _)) (by simpa using a) (by simpa using b.mono fun _ _ => ER.mono (Pre.refl _) (Nat.le_add_right _ _)) c1

theorem dictPut_new {dd : Addr} {ents : List DictEntry} {ep : Nat} {e : DictEntry} {k : List Nat} {t : Tok} {Q : Unit → Shared → Prop} (hd : s.heap.get? dd = some (dictO ents ep)) (hk : ∀ e ∈ ents, ∃ k, Value.isStrOf k e.key = true ∧ e.hash = hashStr C.w k)
    (e1 : e.key = .str ⟨k.toArray⟩ t) (e2 : e.hash = hashStr C.w ⟨k.toArray⟩) (hn : (ents.findIdx? fun e => Value.isStrOf ⟨k.toArray⟩ e.key) = none) (sz : ents.length ≤ LIM)
    (k1 : ∀ H', H'.get? dd = some (dictO (ents ++ [e]) (ep + 1)) → Heap.SameBut dd s.heap H' → Q () { s with heap := H' }) :
    wpAny (model C.prog C.w) A (dictPut dd e.hash e.key e.val) Q E s := by
  have hko : KeysOf (strKind C.prog C.w) ents.toArray := fun e he => hk e (by simpa using he)
  obtain ⟨hash, key, val⟩ := e
  cases e1
  cases e2
  unfold dictPut
  refine wpAny_bind (wpAny_dictFind_of (knd := strKind C.prog C.w) (k := ⟨k.toArray⟩) (by exact beq_self_eq_true _) hd rfl hko ?_)
  have hix : (ents.toArray.findIdx? fun e => (strKind C.prog C.w).is ⟨k.toArray⟩ e.key) = none := by
    have : (ents.toArray.findIdx? fun e => (strKind C.prog C.w).is ⟨k.toArray⟩ e.key) = ents.findIdx? fun e => Value.isStrOf ⟨k.toArray⟩ e.key := by simp; rfl
    rw [this, hn]
  rw [hix]
  refine wpAny_updateDictKeys (hz := by rw [sizeLine_eq]; unfold LIM at sz; simpa using sz) hd rfl (k1 _ ?_ (Heap.SameBut.update ..))
  refine (Heap.get?_update_self _ hd (by rfl)).trans ?_
  simp [Obj.mapDictKeys, dictO]

theorem merge_loop {dd a : Addr} {more : List (List Nat × V)} {src : List DictEntry} {ep2 T : Nat} {rep rep2 : Bool} (hne : a ≠ dd) (al2 : All2 (ER C.w C.L β T rep2) more src)
    (f : Nat → PUnit → Sem (ForInStep PUnit)) (hf : ∀ i u, f i u = (do
      match (← dictEntries a)[i]? with
      | some e => do
        holding [e.key, e.val] (dictPut dd e.hash e.key e.val)
        if ((← dictEpoch a) != ep2) = true then do
          unsupported "dict.changed-during-merge"
          pure (ForInStep.yield PUnit.unit)
        else pure (ForInStep.yield PUnit.unit)
      | _ => do
        unsupported "dict.changed-during-merge"
        pure (ForInStep.yield PUnit.unit))) :
    ∀ (n j : Nat) (acc : List (List Nat × V)) (ents : List DictEntry) (ep : Nat) (s : Shared) (Q : PUnit → Shared → Prop), j + n = src.length → s.heap.get? dd = some (dictO ents ep) → s.heap.get? a = some (dictO src ep2) →
      All2 (ER C.w C.L β T rep) acc ents → ((acc ++ more.drop j).map (·.1)).Nodup → acc.length + n ≤ LIM →
      (∀ H', H'.get? dd = some (dictO (ents ++ src.drop j) (ep + n)) → Heap.SameBut dd s.heap H' → Q ⟨⟩ { s with heap := H' }) →
      wpAny (model C.prog C.w) A (forIn (List.range' j n) PUnit.unit f) Q E s
  | 0, j, acc, ents, ep, s, Q, hj, hd, ha, al, nd, sz, k => by
    rw [List.range'_zero, List.forIn_nil]
    have : src.drop j = [] := List.drop_eq_nil_of_le (by omega)
    rw [this, List.append_nil] at k
    exact wpAny_pure (k s.heap hd (Heap.SameBut.refl _ _))
  | n + 1, j, acc, ents, ep, s, Q, hj, hd, ha, al, nd, sz, k => by
    have hjl : j < src.length := by omega
    have hml : j < more.length := by rw [al2.length]; exact hjl
    obtain ⟨d, hd2, her⟩ := al2.get (List.getElem?_eq_getElem hml)
    have hsd : src.drop j = d :: src.drop (j + 1) := by
      rw [List.drop_eq_getElem_cons hjl]
      rw [List.getElem?_eq_getElem hjl] at hd2
      cases hd2; rfl
    have hmd : more.drop j = more[j] :: more.drop (j + 1) := List.drop_eq_getElem_cons hml
    obtain ⟨t, e1, e2, e3, e4, e5, e6, e7⟩ := her
    have hnk : more[j].1 ∉ acc.map (·.1) := by
      rw [hmd, List.map_append, List.nodup_append] at nd
      exact fun hm => nd.2.2 _ hm more[j].1 (by rw [List.map_cons]; exact .head _) rfl
    have hno := nokey_idx al hnk
    rw [List.range'_succ, List.forIn_cons, hf]
    refine wpAny_bind (wpAny_bind (wpAny_dictEntries ha rfl ?_))
    have : (src.toArray)[j]? = some d := by simpa using hd2
    rw [this]
    refine wpAny_bind (wpAny_holding (dictPut_new hd (fun e he => keys_dict al e he) e1 e2 hno (by rw [← al.length]; omega) fun H1 g1 s1 => ?_))
    have ha1 : H1.get? a = some (dictO src ep2) := (s1.2 a hne).trans ha
    refine wpAny_bind (wpAny_dictEpoch (s := { s with heap := H1 }) ha1 rfl ?_)
    rw [if_neg (by simp)]
    refine wpAny_pure ?_
    have al3 : All2 (ER C.w C.L β T (rep && rep2)) (acc ++ [more[j]]) (ents ++ [d]) :=
      All2.append (al.mono fun _ _ => ER_weak (Pre.refl _) (Nat.le_refl _) (by simp; exact fun a _ => a)) ⟨ER_weak (Pre.refl _) (Nat.le_refl _) (by simp) ⟨t, e1, e2, e3, e4, e5, e6, e7⟩, trivial⟩
    refine merge_loop (rep := rep && rep2) hne al2 f hf n (j + 1) (acc ++ [more[j]]) (ents ++ [d]) (ep + 1) _ Q (by omega) g1 ha1 al3 (by rw [hmd] at nd; simpa using nd) (by simp; omega) fun H' a b => ?_
    exact k H' (by rw [hsd]; simpa [Nat.add_assoc, Nat.add_comm 1] using a) (s1.trans b)

theorem merge_new {dd a : Addr} {acc more : List (List Nat × V)} {ents src : List DictEntry} {ep ep2 T : Nat} {rep rep2 : Bool} {Q : Unit → Shared → Prop} (hne : a ≠ dd) (lo : (a == sysModules) = false)
    (hd : s.heap.get? dd = some (dictO ents ep)) (ha : s.heap.get? a = some (dictO src ep2)) (al : All2 (ER C.w C.L β T rep) acc ents) (al2 : All2 (ER C.w C.L β T rep2) more src) (nd : ((acc ++ more).map (·.1)).Nodup) (sz : acc.length + more.length ≤ LIM)
    (k : ∀ H', H'.get? dd = some (dictO (ents ++ src) (ep + src.length)) → Heap.SameBut dd s.heap H' → Q () { s with heap := H' }) :
    wpAny (model C.prog C.w) A (mergeMapping dd (.ref a) false) Q E s := by
  have hT : s.TypeIs (.ref a) "dict" := ⟨_, ha, rfl⟩
  unfold mergeMapping
  refine wpAny_bind (wpAny_isInstance hT F.sub_dict_dict ?_)
  rw [if_pos rfl]
  refine wpAny_bind (wpAny_specialOf (name := Str.ofString "__iter__") hT F.slot_dict_iter.lookup ?_)
  refine wpAny_bind (wpAny_pure ?_)
  rw [beq_self_eq_true]
  dsimp only
  rw [lo, if_neg Bool.false_ne_true]
  refine wpAny_bind (wpAny_dictEntries hd rfl ?_)
  have body : wpAny (model C.prog C.w) A (do
      let es ← dictEntries a
      let epoch ← dictEpoch a
      forIn (List.range es.size) PUnit.unit fun i __s => (do
        match (← dictEntries a)[i]? with
        | some e => do
          holding [e.key, e.val] (dictPut dd e.hash e.key e.val)
          if ((← dictEpoch a) != epoch) = true then do
            unsupported "dict.changed-during-merge"
            pure (ForInStep.yield PUnit.unit)
          else pure (ForInStep.yield PUnit.unit)
        | _ => do
          unsupported "dict.changed-during-merge"
          pure (ForInStep.yield PUnit.unit) : Sem (ForInStep PUnit))
      pure ()) Q E s := by
    refine wpAny_bind (wpAny_dictEntries ha rfl ?_)
    refine wpAny_bind (wpAny_dictEpoch ha rfl ?_)
    have hsz : src.toArray.size = src.length := by simp
    rw [hsz, List.range_eq_range']
    refine wpAny_bind (merge_loop hne al2 _ (fun i u => rfl) src.length 0 acc ents ep s _ (by omega) hd ha al (by simpa using nd) (by rw [← al2.length]; exact sz) fun H' x y => wpAny_pure (k H' (by simpa using x) y))
  split
  · refine wpAny_bind (wpAny_dictEntries ha rfl ?_)
    refine wpAny_bind (PySem.MeetsSeq2.wpAny_forIn_array _ (fun l _ s' => s' = s ∧ ∀ e ∈ l, ∃ x t, e.key = .str x t) _ ?_ ?_ _ _ ?_)
    · rintro x rest b s' ⟨rfl, h⟩
      obtain ⟨y, t, e⟩ := h x (.head _)
      rw [e]
      exact wpAny_pure ⟨rfl, fun e he => h e (.tail _ he)⟩
    · rintro b s' ⟨rfl, _⟩
      exact body
    · refine ⟨rfl, fun e he => ?_⟩
      obtain ⟨k, h1, _⟩ := keys_dict al2 e (by simpa using he)
      obtain ⟨t, h2⟩ := Value.isStrOf_shape h1
      exact ⟨_, t, h2⟩
  · exact body
end
end Mine

end

section
open PySem PySem.Calls PyProof.Rows PySem.W
namespace Mine

theorem gather {mn : Option Addr} (f : (Option (Sem Value) × Sem Value) → (Option Addr × List (Sem Value × Sem Value)) → Sem (ForInStep (Option Addr × List (Sem Value × Sem Value))))
    (hf : ∀ (p : Sem Value × Sem Value) (run : List (Sem Value × Sem Value)), run.length + 1 < 17 → f (some p.1, p.2) (mn, run) = pure (.yield (mn, run ++ [p]))) :
    ∀ (items run : List (Sem Value × Sem Value)), run.length + items.length < 17 → forIn (items.map fun p => (some p.1, p.2)) (mn, run) f = pure (mn, run ++ items)
  | [], run, _ => by simp
  | p :: rest, run, h => by
    rw [List.map_cons, List.forIn_cons, hf p run (by simp at h; omega), pure_bind]
    have := gather f hf rest (run ++ [p]) (by simp at h ⊢; omega)
    simpa using this

section
variable {C : Cx} {N : Nm} {sc : Scope} {env : Env} {A₀ : Addr} {A : Around} {d : Nat} {m : M} {h h' : Hp} {v : V} {s : Shared} {β : List Addr} {Q : Value → Shared → Prop} {E : Value → Shared → Prop} {S : Sm}

theorem Gd.alloc' {w : World} {L : Pl} {G : Heap} {T : Nat} {H H' : Heap} (g : Gd w L G β T h H) (hk : ∀ b o, H.get? b = some o → H'.get? b = some o) {o : O} {ob : Obj} (hob : H'.get? H.objs.size = some ob) (ho : ORd w L (β ++ [H.objs.size]) T o ob) :
    Gd w L G (β ++ [H.objs.size]) T (h ++ [o]) H' ∧ Ext β H (β ++ [H.objs.size]) H' := by
  have hp : Pre β (β ++ [H.objs.size]) := ⟨_, rfl⟩
  have key := g.alloc (o := .list []) (ob := ⟨.type "list", none, .seq #[] 0, #[]⟩) rfl ⟨⟨_, _, _, _, rfl, trivial, Nat.zero_le _⟩, rfl⟩
  refine ⟨⟨by simp [g.len], key.1.nd, ?_, fun b o' e => hk _ _ (g.base b o' e), key.1.new, g.pos, g.g3, key.1.big⟩, hp, fun b o' n e => ⟨hk b o' e, (key.2.keep b o' n e).2⟩⟩
  intro k o' a e1 e2
  rcases Nat.lt_or_ge k h.length with q | q
  · rw [List.getElem?_append_left q] at e1
    rw [List.getElem?_append_left (by rw [g.len]; exact q)] at e2
    obtain ⟨ob', x, y⟩ := g.objs k o' a e1 e2
    exact ⟨ob', hk _ _ x, y.mono hp (Nat.le_refl _)⟩
  · rw [List.getElem?_append_right q] at e1
    rw [List.getElem?_append_right (by rw [g.len]; exact q), g.len] at e2
    have hk : k - h.length = 0 := by
      rcases Nat.eq_zero_or_pos (k - h.length) with z | z
      · exact z
      · rw [List.getElem?_eq_none (by simp; omega)] at e1; cases e1
    rw [hk] at e1 e2
    simp at e1 e2
    subst e1 e2
    exact ⟨ob, hob, ho⟩

theorem new_ref {w : World} {L : Pl} {G : Heap} {T : Nat} {H : Heap} (g : Gd w L G β T h H) : VR L (β ++ [H.objs.size]) T (.ref h.length) (.ref H.objs.size) :=
  ⟨H.objs.size, by rw [← g.len]; simp, rfl⟩

theorem ev_dict0 {ks vs : MEs} {p : Pos} (ok : ME.ok N sc (.dict .no ks vs p) = true) (e : stepE C.X S (.dict .no ks vs p) m h = some (v, h')) (G : Gd C.w C.L C.G β s.toks h s.heap) (pst : Pst C s β h' v Q) :
    GE C N env A Q E s (ME.dict .no ks vs p) := by
  replace ok := (show (_ && _) = true from ok)
  simp only [Bool.and_eq_true, decide_eq_true_eq] at ok
  obtain ⟨⟨⟨⟨⟨_, h1⟩, h2⟩, okl⟩, oknd⟩, _⟩ := ok
  obtain ⟨es, e1, e2⟩ := bind_some e
  cases e2
  obtain ⟨el, ek⟩ := pairs_len e1
  have fin : ∀ H' ents T, s.toks ≤ T → H'.get? s.heap.objs.size = some (dictO ents es.length) → All2 (ER C.w C.L [] T true) es ents → (∀ b o, s.heap.get? b = some o → H'.get? b = some o) → Q (.ref s.heap.objs.size) { s with heap := H', toks := T } := by
    intro H' ents T a b c k
    have g1 := (G.toks a).alloc' k b (o := .dict true es.length es) ⟨⟨ents.toArray, rfl, by simpa using c.mono fun _ _ => ER.mono ⟨_, rfl⟩ (Nat.le_refl _), by rw [ek]; exact oknd, by unfold LIM; omega⟩, rfl⟩
    exact pst _ _ H' T a g1.2 g1.1 (new_ref (G.toks a))
  show wpAny _ _ (eval (.Dict (ks.backSome N) (vs.back N) p) env) Q E s
  rcases pairs_inv e1 with ⟨rfl, rfl, rfl⟩ | ⟨k, p1, c, q1, ks, vs, r, rfl, rfl, h4, rfl⟩
  · refine wpAny_Dict_empty (fin _ [] s.toks (Nat.le_refl _) ?_ trivial (get?_push_keep _))
    exact Heap.get?_push_size _ rfl
  · rw [arm_eval_Dict, pairTrees_zip e1]
    refine wpAny_bind (wpAny_standAt ?_)
    have hne : pairTrees N env p (.cons (.cst (.str k) p1) ks) (.cons (.cst c q1) vs) ≠ [] := List.cons_ne_nil _ _
    rw [dictDisplay_pairs _ hne (Nat.lt_of_le_of_lt pairTrees_len (by omega))]
    exact wpAny_bind (subDict_sound e1 h1 h2 okl oknd G.pos fun H' ents T a b c k => wpAny_pure (fin H' ents T a b c k))

theorem evs_len : ∀ {es : MEs} {h h' : Hp} {vs : List V}, evs S es m h = some (vs, h') → vs.length = es.len
  | .nil, h, h', vs, e => by cases e; rfl
  | .cons x r, h, h', vs, e => by
    obtain ⟨⟨v, h1⟩, e1, e2⟩ := bind_some e
    obtain ⟨⟨vs', h2⟩, e3, e4⟩ := bind_some e2
    cases e4
    rw [List.length_cons, evs_len e3]; rfl
theorem ev_list {es : MEs} {p : Pos} (ih : SEv C S d) (V₀ : EnvOk C N sc env A₀) (hA : AOk A d) (ok : ME.ok N sc (.list es p) = true) (e : stepE C.X S (.list es p) m h = some (v, h')) (G : Gd C.w C.L C.G β s.toks h s.heap) (F : Frm C.L C.G N β s.toks m A₀ s.heap) (pst : Pst C s β h' v Q) :
    GE C N env A Q E s (ME.list es p) := by
  replace ok := (show (_ && _) = true from ok)
  simp only [Bool.and_eq_true, decide_eq_true_eq] at ok
  obtain ⟨⟨vs, h1⟩, e1, e2⟩ := bind_some e
  cases e2
  have hl := evs_len e1
  refine List_ ?_
  rw [trees]
  refine args_sound ih V₀ hA es h h1 vs ok.1 e1 s β _ E G F fun xs β1 H1 T1 t1 x1 g1 r1 => ?_
  have hxl : xs.length = vs.length := r1.length.symm
  refine wpAny_newObj_type ?_ (by show xs.toArray.size ≤ sizeLine; rw [List.size_toArray, sizeLine_eq]; omega)
  have g2 := g1.alloc' (get?_push_keep { cls := .type "list", data := .seq xs.toArray }) (Heap.get?_push_size _ rfl) (o := .list vs) ⟨⟨_, _, _, _, rfl, by simpa using r1.mono fun _ _ => VR.mono ⟨_, rfl⟩ (Nat.le_refl _), by unfold LIM; omega⟩, rfl⟩
  exact pst _ _ _ T1 t1 (x1.trans g2.2) g2.1 (new_ref g1)
theorem ev_tup {es : MEs} {p : Pos} (ih : SEv C S d) (V₀ : EnvOk C N sc env A₀) (hA : AOk A d) (ok : ME.ok N sc (.tup es p) = true) (e : stepE C.X S (.tup es p) m h = some (v, h')) (G : Gd C.w C.L C.G β s.toks h s.heap) (F : Frm C.L C.G N β s.toks m A₀ s.heap) (pst : Pst C s β h' v Q) :
    GE C N env A Q E s (ME.tup es p) := by
  replace ok := (show (_ && _) = true from ok)
  simp only [Bool.and_eq_true, decide_eq_true_eq] at ok
  obtain ⟨⟨vs, h1⟩, e1, e2⟩ := bind_some e
  cases e2
  have hl := evs_len e1
  refine Tuple_ ?_
  rw [trees]
  refine args_sound ih V₀ hA es h h1 vs ok.1 e1 s β _ E G F fun xs β1 H1 T1 t1 x1 g1 r1 => ?_
  have hxl : xs.length = vs.length := r1.length.symm
  refine wpAny_newTuple ?_ (by rw [sizeLine_eq]; omega)
  have g2 := g1.alloc' (get?_push_keep { cls := .type "tuple", data := .seq xs.toArray }) (Heap.get?_push_size _ rfl) (o := .tup vs) ⟨⟨_, _, _, _, rfl, by simpa using r1.mono fun _ _ => VR.mono ⟨_, rfl⟩ (Nat.le_refl _), by unfold LIM; omega⟩, rfl⟩
  exact pst _ _ _ T1 t1 (x1.trans g2.2) g2.1 (new_ref g1)

/-- what a piece of the display's road does where nothing is raised -/
theorem guarded {α : Type} {M : Model} {t : Sem α} {k : Value → Sem Unit} {Q : α → Shared → Prop} (h : wpAny M A t Q (fun _ _ => False) s) : wpAny M A (t.onRaise k) Q E s :=
  wpAny_onRaise (wpAny_mono h (fun _ _ x => x) fun _ _ x => x.elim)

theorem obj_at2 (ok0 : C.Ok) {T : Nat} {H : Heap} (g : Gd C.w C.L C.G β T h H) {v : V} {o : O} (e : obj C.X h v = some o) {x : Value} (r : VR C.L β T v x) :
    ∃ a ob, x = .ref a ∧ H.get? a = some ob ∧ OR C.w C.L β T o ob ∧ ((∀ vs, o ≠ O.list vs) → (a == sysModules) = false) ∧ (a ∈ β ∨ ∃ o, C.G.get? a = some o) := by
  obtain ⟨a, ob, rfl, q, z, lo⟩ := obj_at ok0 g e r
  refine ⟨a, ob, rfl, q, z, lo, ?_⟩
  cases v with
  | ref k => obtain ⟨a', ha, e⟩ := r; cases e; exact .inl (List.mem_of_getElem? ha)
  | ext j =>
    obtain ⟨a', ha, e⟩ := r
    cases e
    obtain ⟨a', ob', ha', q, _⟩ := ok0.ext j o (by assumption)
    rw [ha] at ha'; cases ha'
    exact .inr ⟨_, q⟩
  | _ => cases e

theorem Gd.adopt {w : World} {L : Pl} {G : Heap} {T : Nat} {H H' : Heap} {dd : Addr} (g : Gd w L G β T h H) (hd : dd ∉ β) (hG : G.get? dd = none) (hb : (dd == sysModules) = false) (hk : ∀ b o, b ≠ dd → H.get? b = some o → H'.get? b = some o) {o : O} {ob : Obj}
    (hob : H'.get? dd = some ob) (ho : ORd w L (β ++ [dd]) T o ob) : Gd w L G (β ++ [dd]) T (h ++ [o]) H' := by
  have hp : Pre β (β ++ [dd]) := ⟨_, rfl⟩
  refine ⟨by simp [g.len], ?_, ?_, fun b o' e => hk b o' (fun z => by rw [z, hG] at e; cases e) (g.base b o' e), ?_, g.pos, g.g3, ?_⟩
  · rw [List.nodup_append]
    refine ⟨g.nd, by simp, ?_⟩
    intro a ha b hb
    simp at hb
    subst hb
    exact fun e => hd (e ▸ ha)
  · intro k o' a e1 e2
    rcases Nat.lt_or_ge k h.length with q | q
    · rw [List.getElem?_append_left q] at e1
      rw [List.getElem?_append_left (by rw [g.len]; exact q)] at e2
      obtain ⟨ob', x, y⟩ := g.objs k o' a e1 e2
      exact ⟨ob', hk _ _ (fun z => hd (z ▸ List.mem_of_getElem? e2)) x, y.mono hp (Nat.le_refl _)⟩
    · rw [List.getElem?_append_right q] at e1
      rw [List.getElem?_append_right (by rw [g.len]; exact q), g.len] at e2
      have hk : k - h.length = 0 := by
        rcases Nat.eq_zero_or_pos (k - h.length) with z | z
        · exact z
        · rw [List.getElem?_eq_none (by simp; omega)] at e1; cases e1
      rw [hk] at e1 e2
      simp at e1 e2
      subst e1 e2
      exact ⟨ob, hob, ho⟩
  · intro a ha
    rcases List.mem_append.mp ha with q | q
    · exact g.new a q
    · simp at q; subst q; exact hG
  · intro a ha
    rcases List.mem_append.mp ha with q | q
    · exact g.big a q
    · simp at q; subst q; exact hb

theorem fresh_big {w : World} {L : Pl} {G : Heap} {T : Nat} {H : Heap} (g : Gd w L G β T h H) : (H.objs.size == sysModules) = false := by
  obtain ⟨o3, h3⟩ := g.g3
  have := Heap.lt_size (g.base _ _ h3)
  exact beq_eq_false_iff_ne.mpr (Nat.ne_of_gt (Nat.lt_trans (by decide) this))

theorem ev_spread {x : ME} {ks vs : MEs} {p : Pos} (ok0 : C.Ok) (ih : SEv C S d) (V₀ : EnvOk C N sc env A₀) (hA : AOk A d) (ok : ME.ok N sc (.dict (.yes x) ks vs p) = true) (e : stepE C.X S (.dict (.yes x) ks vs p) m h = some (v, h'))
    (G : Gd C.w C.L C.G β s.toks h s.heap) (F : Frm C.L C.G N β s.toks m A₀ s.heap) (pst : Pst C s β h' v Q) :
    GE C N env A Q E s (ME.dict (.yes x) ks vs p) := by
  replace ok := (show (_ && _) = true from ok)
  simp only [Bool.and_eq_true, decide_eq_true_eq] at ok
  obtain ⟨⟨⟨⟨⟨okx, h1⟩, h2⟩, okl⟩, oknd⟩, okn⟩ := ok
  obtain ⟨⟨a, hh⟩, e1, e2⟩ := bind_some e
  simp only at e2
  split at e2
  · rename_i rep ep es ho
    obtain ⟨more, e3, e4⟩ := bind_some e2
    split at e4
    · rename_i hcond
      cases e4
      obtain ⟨el, ek⟩ := pairs_len e3
      show wpAny _ _ (eval (.Dict (none :: ks.backSome N) (x.back N :: vs.back N) p) env) Q E s
      rw [arm_eval_Dict]
      refine wpAny_bind (wpAny_standAt ?_)
      have hz : (evalEachOpt (none :: ks.backSome N) env).zip ((evalEach (x.back N :: vs.back N) env).map fun v => do let x ← v; standAt p; pure x) =
          (none, do let x ← eval (x.back N) env; standAt p; pure x) :: (pairTrees N env p ks vs).map fun p => (some p.1, p.2) := by
        rw [← pairTrees_zip e3]; rfl
      rw [hz]
      unfold dictDisplay
      dsimp only
      rw [List.forIn_cons]
      refine wpAny_bind (wpAny_bind ?_)
      dsimp only
      refine wpAny_bind ?_
      rw [if_pos (by rfl)]
      refine wpAny_pure ?_
      dsimp only
      refine wpAny_bind (wpAny_alloc ?_)
      have hk0 := get?_push_keep (H := s.heap) { cls := .type "dict", data := .dict #[] }
      refine wpAny_bind (wpAny_holding (wpAny_bind ?_))
      refine ih x N sc env A₀ A m h hh a okx V₀ hA e1 { s with heap := s.heap.push { cls := .type "dict", data := .dict #[] } } β _ E (G.grow hk0) (F.ext (Ext.grow hk0) (Nat.le_refl _)) fun y β1 H1 T1 t1 x1 g1 r1 => ?_
      refine wpAny_bind (wpAny_standAt (wpAny_pure ?_))
      obtain ⟨a', ob, rfl, q, z, lo0, hin⟩ := obj_at2 ok0 g1 ho r1
      have lo := lo0 (fun vs e => by cases e)
      obtain ⟨ents, rfl, al, nd, le⟩ := z
      have hd1 := x1.keep s.heap.objs.size _ G.fresh.1 (Heap.get?_push_size _ rfl)
      have hne : a' ≠ s.heap.objs.size := by
        rintro rfl
        rcases hin with hin | ⟨o, ho⟩
        · exact hd1.2 hin
        · rw [G.fresh.2] at ho; cases ho
      have hnd : ((es ++ more).map (·.1)).Nodup := by
        rw [List.map_append, List.nodup_append]
        refine ⟨nd, by rw [ek]; exact oknd, ?_⟩
        intro k hk k' hk' hkk
        subst hkk
        obtain ⟨p', hp', rfl⟩ := List.mem_map.mp hk'
        have := List.all_eq_true.mp hcond.2 p' hp'
        unfold keyIn at this
        rw [Option.isNone_map, Option.isNone_iff_eq_none, List.find?_eq_none] at this
        obtain ⟨e', he', hee⟩ := List.mem_map.mp hk
        exact this e' he' (by simp [hee])
      have heq : ents.toList.toArray = ents := Array.toArray_toList ..
      have q' : H1.get? a' = some (dictO ents.toList ep) := by simp only [dictO, heq]; exact q
      refine wpAny_bind (guarded (wpAny_tryCatch (guarded (wpAny_holding (merge_new (s := { s with heap := H1, toks := T1 }) (acc := []) (ents := []) (ep := 0) (ep2 := ep) (src := ents.toList) (more := es) (T := T1) (rep := true) (rep2 := rep) (β := β1) hne lo hd1.1 q' trivial al (by simpa using nd) (by simpa using le) fun H2 g2 s2 => ?_)))))
      refine wpAny_pure ?_
      dsimp only
      rw [gather _ (fun p run h => by
        have hne : ((run ++ [(p.1, p.2)]).length == 17) = false := by simp; omega
        simp only [hne, Bool.false_eq_true, if_false]) (pairTrees N env p ks vs) [] (by have := pairTrees_len (N := N) (env := env) (pos := p) (ks := ks) (vs := vs); simp; omega)]
      refine wpAny_bind (wpAny_pure ?_)
      refine wpAny_pure ?_
      dsimp only
      have hpe : ([] ++ pairTrees N env p ks vs).isEmpty = false := by
        rcases pairs_inv e3 with ⟨rfl, rfl, rfl⟩ | ⟨k, p1, c, q1, ks, vs, r, rfl, rfl, h4, rfl⟩
        · exact absurd okn (by decide)
        · rfl
      rw [hpe, if_neg Bool.false_ne_true]
      have hlen : ents.toList.length = es.length := al.length.symm
      have g2' : H2.get? s.heap.objs.size = some (dictO ents.toList es.length) := by simpa [hlen] using g2
      have g20 : 0 < T1 := g1.pos
      refine wpAny_bind (wpAny_bind (wpAny_holding (subDict_sound (s := { s with heap := H2, toks := T1 }) e3 h1 h2 okl oknd g20 fun H3 ents2 T2 t2 o2 al2 k2 => ?_)))
      have hne2 : H2.objs.size ≠ s.heap.objs.size := Nat.ne_of_gt (Heap.lt_size g2')
      have lo2 : (H2.objs.size == sysModules) = false := by
        obtain ⟨o3, h3⟩ := g1.g3
        have h3' := g1.base _ _ h3
        have : 3 < H2.objs.size := by
          by_cases z : (3 : Nat) = s.heap.objs.size
          · have := fresh_big G
            exact absurd (Heap.lt_size (G.base _ _ h3)) (by rw [← z]; exact Nat.lt_irrefl _)
          · exact Heap.lt_size ((s2.2 3 z).trans h3')
        exact beq_eq_false_iff_ne.mpr (Nat.ne_of_gt (Nat.lt_trans (by decide) this))
      have alE : All2 (ER C.w C.L β1 T2 rep) es ents.toList := al.mono fun _ _ => ER.mono (Pre.refl _) t2
      have alM : All2 (ER C.w C.L β1 T2 true) more ents2 := al2.mono fun _ _ => ER.mono ⟨β1, rfl⟩ (Nat.le_refl _)
      refine wpAny_bind (guarded (wpAny_holding (merge_new (s := { s with heap := H3, toks := T2 }) hne2 lo2 (k2 _ _ g2') o2 alE alM hnd (by unfold LIM; omega) fun H4 g4 s4 => wpAny_pure (wpAny_pure ?_))))
      have hl2 : ents2.length = more.length := alM.length.symm
      have keep : ∀ b o, b ≠ s.heap.objs.size → H1.get? b = some o → H4.get? b = some o := fun b o n e => (s4.2 b n).trans (k2 b o ((s2.2 b n).trans e))
      have gg := (g1.toks t2).adopt hd1.2 G.fresh.2 (fresh_big G) keep (o := .dict rep (es.length + more.length) (es ++ more)) (ob := dictO (ents.toList ++ ents2) (es.length + more.length)) (by rw [g4, hl2])
        ⟨⟨_, rfl, by
          have a1 : All2 (ER C.w C.L (β1 ++ [s.heap.objs.size]) T2 rep) es ents.toList := alE.mono fun _ _ => ER.mono ⟨_, rfl⟩ (Nat.le_refl _)
          have a2 : All2 (ER C.w C.L (β1 ++ [s.heap.objs.size]) T2 rep) more ents2 := alM.mono fun _ _ => ER_weak ⟨_, rfl⟩ (Nat.le_refl _) fun _ => rfl
          simpa using All2.append a1 a2, hnd, by rw [List.length_append]; unfold LIM; omega⟩, rfl⟩
      refine pst _ (β1 ++ [s.heap.objs.size]) H4 T2 (Nat.le_trans t1 t2) ⟨x1.pre.trans ⟨_, rfl⟩, fun b o n e => ?_⟩ gg ⟨s.heap.objs.size, by rw [← g1.len]; simp, rfl⟩
      have nb : b ≠ s.heap.objs.size := Nat.ne_of_lt (Heap.lt_size e)
      have kb := x1.keep b o n (Heap.get?_push_of_some _ e)
      refine ⟨keep b o nb kb.1, fun hm => ?_⟩
      rcases List.mem_append.mp hm with q | q
      · exact kb.2 q
      · simp at q; exact nb q
    · cases e4
  · cases e2
end
end Mine

end

section
open PySem PySem.Calls PyProof.Rows PySem.W
namespace Mine

noncomputable def STr (C : Cx) (S : Sm) (d : Nat) : Prop :=
  ∀ (e : ME) (N : Nm) (sc : Scope) (env : Env) (A₀ : Addr) (A : Around) (m : M) (h h' : Hp) (v : V) (t : Bool), e.ok N sc = true → EnvOk C N sc env A₀ → AOk A d → S.ev e m h = some (v, h') → truth C.X h' v = some t →
  ∀ (s : Shared) (β : List Addr) (Q : Bool → Shared → Prop) (E : Value → Shared → Prop), Gd C.w C.L C.G β s.toks h s.heap → Frm C.L C.G N β s.toks m A₀ s.heap →
  (∀ β' H' T', s.toks ≤ T' → Ext β s.heap β' H' → Gd C.w C.L C.G β' T' h' H' → Q t { s with heap := H', toks := T' }) →
  wpAny (model C.prog C.w) A (isTrue (e.back N) env (eval (e.back N) env)) Q E s

section
variable {C : Cx} {N : Nm} {sc : Scope} {env : Env} {A₀ : Addr} {A : Around} {d : Nat} {m : M} {h h' : Hp} {v : V} {s : Shared} {β : List Addr} {Q : Value → Shared → Prop} {E : Value → Shared → Prop} {S : Sm}

theorem part_sound {lo : MO} {l : Option Int} {Q : Value → Shared → Prop} (ih : SEv C S d) (V₀ : EnvOk C N sc env A₀) (hA : AOk A d) (ok : lo.ok N sc = true) (e : evO S lo m h = some (l, h')) (G : Gd C.w C.L C.G β s.toks h s.heap) (Fm : Frm C.L C.G N β s.toks m A₀ s.heap)
    (k : ∀ (p : Option (Int × Tok)) β' H' T', p.map (·.1) = l → s.toks ≤ T' → Ext β s.heap β' H' → Gd C.w C.L C.G β' T' h' H' → Q (partValue p) { s with heap := H', toks := T' }) :
    wpAny (model C.prog C.w) A (evalPart (lo.back N) env) Q E s := by
  cases lo with
  | no =>
    cases e
    exact evalPart_none_step (k none β s.heap s.toks rfl (Nat.le_refl _) (Ext.refl _ _) G)
  | yes e' =>
    obtain ⟨⟨v, h1⟩, e1, e2⟩ := bind_some e
    refine evalPart_some_step (ih e' N sc env A₀ A m h h1 v ok V₀ hA e1 s β _ E G Fm fun x β1 H1 T1 t1 x1 g1 r1 => ?_)
    simp only at e2
    split at e2
    · cases e2
      obtain ⟨t, rfl⟩ := r1
      exact k (some (_, t)) β1 H1 T1 rfl t1 x1 g1
    · cases e2

theorem ev_slice {x : ME} {lo hi : MO} {sp p : Pos} (ih : SEv C S d) (V₀ : EnvOk C N sc env A₀) (hA : AOk A d) (ok : ME.ok N sc (.slice x lo hi sp p) = true) (e : stepE C.X S (.slice x lo hi sp p) m h = some (v, h')) (G : Gd C.w C.L C.G β s.toks h s.heap) (Fm : Frm C.L C.G N β s.toks m A₀ s.heap) (pst : Pst C s β h' v Q) :
    GE C N env A Q E s (ME.slice x lo hi sp p) := by
  replace ok := (show (_ && _) = true from ok)
  simp only [Bool.and_eq_true] at ok
  obtain ⟨⟨okx, okl⟩, okh⟩ := ok
  obtain ⟨⟨a, h1⟩, e1, e2⟩ := bind_some e
  obtain ⟨⟨l, h2⟩, e3, e4⟩ := bind_some e2
  obtain ⟨⟨u, h3⟩, e5, e6⟩ := bind_some e4
  simp only at e6
  split at e6
  · rename_i y
    cases e6
    refine Subscript_ ?_
    refine ih x N sc env A₀ A m h h1 _ okx V₀ hA e1 s β _ E G Fm fun ya β1 H1 T1 t1 x1 g1 r1 => ?_
    have F1 := Fm.ext x1 t1
    refine wpAny_Slice ?_
    refine part_sound (s := { s with heap := H1, toks := T1 }) ih V₀ hA okl e3 g1 F1 fun pl β2 H2 T2 hpl t2 x2 g2 => ?_
    have F2 := F1.ext x2 t2
    refine part_sound (s := { s with heap := H2, toks := T2 }) ih V₀ hA okh e5 g2 F2 fun pu β3 H3 T3 hpu t3 x3 g3 => ?_
    refine evalPart_none_step ?_
    have r3 := r1.mono (x2.pre.trans x3.pre) (Nat.le_trans t2 t3)
    obtain ⟨t, rfl, q0, q1, ql⟩ := r3
    have hk := get?_push_keep (H := H3) { cls := .type "slice", data := .fields #[partValue pl, partValue pu, .none] }
    refine tail_any (ops := [.ref H3.objs.size, .str ⟨y.toArray⟩ t]) (typeIs_str _ _ _) F.slot_str_getitem.lookup ?_ rfl
    refine wpAny_getItem_str_slice (l := pl) (u := pu) (st := none) ⟨_, Heap.get?_push_size _ rfl, rfl, rfl⟩ rfl ?_
    have hyl : (⟨y.toArray⟩ : Str).length = y.length := by simp [Str.length]
    have pk : slicePicked ⟨y.toArray⟩ pl pu none = Builtin.Str.strSliceIndices l u 1 y.length := by
      unfold slicePicked
      rw [hpl, hpu, hyl]; rfl
    have tx := slc_picked y l u
    have P1 : Pst C { s with heap := H3.push { cls := .type "slice", data := .fields #[partValue pl, partValue pu, .none] }, toks := T3 } β3 h' (.str (slc y l u)) Q :=
      pst.step (Nat.le_trans t1 (Nat.le_trans t2 t3)) ((x1.trans (x2.trans x3)).trans (Ext.grow hk))
    have le := slc_len y l u
    refine made_str (s := { s with heap := H3.push { cls := .type "slice", data := .fields #[partValue pl, partValue pu, .none] }, toks := T3 }) (g3.grow hk) P1 (fun hc => ?_) (fun hc => ?_)
    · rw [pk, hyl] at hc
      have : (Builtin.Str.strSliceIndices l u 1 y.length).length = y.length := by simpa using hc
      rw [slc_all y l u this]
      exact ⟨t, rfl, q0, q1, ql⟩
    · refine ⟨?_, by omega⟩
      rw [pk]
      exact congrArg (fun z : List Nat => (⟨z.toArray⟩ : Str)) tx
  · cases e6

theorem base_plain {x : ME} {n : Str} (hc : x.notCall = true) : attributeBase (x.back N) n env (eval (x.back N) env) = eval (x.back N) env := by
  cases x <;> first | rfl | (rename_i sp ks vs p; cases sp <;> rfl) | (exact absurd hc Bool.false_ne_true)

theorem fst1_none {c : Nat} : ∀ {l : List Nat}, fst1 c l = none → ∀ j : Nat, l[j]? ≠ some c
  | [], _, j, h => by simp at h
  | x :: r, e, j, h => by
    unfold fst1 at e
    split at e
    · cases e
    · rename_i hx
      cases j with
      | zero => exact hx (by simpa using h)
      | succ j => exact fst1_none (Option.map_eq_none_iff.mp e) j (by simpa using h)
theorem fst1_some {c : Nat} : ∀ {l : List Nat} {k : Nat}, fst1 c l = some k → l[k]? = some c ∧ ∀ j : Nat, j < k → l[j]? ≠ some c
  | [], _, e => by cases e
  | x :: r, k, e => by
    unfold fst1 at e
    split at e
    · rename_i hx
      cases e
      exact ⟨by simp [hx], fun j h => absurd h (Nat.not_lt_zero _)⟩
    · rename_i hx
      obtain ⟨k', e1, rfl⟩ := Option.map_eq_some_iff.mp e
      obtain ⟨h1, h2⟩ := fst1_some e1
      refine ⟨by simpa using h1, fun j hj => ?_⟩
      cases j with
      | zero => simpa using hx
      | succ j => simpa using h2 j (Nat.lt_of_succ_lt_succ hj)
theorem find_sound {l : List Nat} {c : Nat} {i : Int} {t u w : Tok} (h0 : 0 ≤ i) (h1 : i ≤ l.length) (k : ∀ t' T, s.toks ≤ T → Q (.int (match fst1 c (l.drop i.toNat) with | some k => i + k | none => -1) t') { s with toks := T }) :
    wpAny (model C.prog C.w) A (call (.builtin "str.find") [.str ⟨l.toArray⟩ t, .str ⟨[c].toArray⟩ u, .int i w]) Q E s := by
  have hl : (⟨l.toArray⟩ : Str).length = l.length := by simp [Str.length]
  have hf : fromIndex (⟨l.toArray⟩ : Str).length i = i.toNat := by
    unfold fromIndex
    rw [if_neg (by omega)]
    congr 1; omega
  refine call_gives F.slot_str_find (typeIs_str _ _ _) F.entry_str_find (F.args_str_find_3 _ _ _) (gives_str_find_from ⟨l.toArray⟩ ⟨[c].toArray⟩ i t u w) ?_
  have key : (match Builtin.Str.occurrences (⟨l.toArray⟩ : Str) ⟨[c].toArray⟩ (fromIndex (⟨l.toArray⟩ : Str).length i) (⟨l.toArray⟩ : Str).length 1 with | k :: _ => (k : Int) | [] => -1) = (match fst1 c (l.drop i.toNat) with | some k => i + k | none => -1) := by
    rw [hf]
    rcases StrLaws.occ_head_from ⟨l.toArray⟩ ⟨[c].toArray⟩ i.toNat 1 (Nat.le_refl _) with ⟨e, hn⟩ | ⟨a, r, e, ha, hat, hn⟩
    · rw [e]
      cases hf1 : fst1 c (l.drop i.toNat) with
      | none => rfl
      | some k =>
        obtain ⟨q1, _⟩ := fst1_some hf1
        rw [List.getElem?_drop] at q1
        exact absurd ((StrLaws.subAt_one ⟨l.toArray⟩ c (i.toNat + k)).mpr q1) (hn _ (by omega))
    · rw [e]
      have q0 := (StrLaws.subAt_one ⟨l.toArray⟩ c a).mp hat
      have q0' : (l.drop i.toNat)[a - i.toNat]? = some c := by
        rw [List.getElem?_drop]
        rw [show i.toNat + (a - i.toNat) = a by omega]; exact q0
      cases hf1 : fst1 c (l.drop i.toNat) with
      | none => exact absurd q0' (fst1_none hf1 _)
      | some k =>
        obtain ⟨q1, q2⟩ := fst1_some hf1
        have e1 : a = i.toNat + k := by
          rcases Nat.lt_trichotomy a (i.toNat + k) with h | h | h
          · exact absurd q0' (q2 _ (by omega))
          · exact h
          · rw [List.getElem?_drop] at q1
            exact absurd ((StrLaws.subAt_one ⟨l.toArray⟩ c (i.toNat + k)).mpr q1) (hn _ (by omega) h)
        show ((a : Nat) : Int) = i + (k : Nat)
        omega
  have k' := k s.toks (s.toks + 1) (Nat.le_succ _)
  rw [← key] at k'
  exact k'
theorem cnt_filter (c : Nat) : ∀ l : List Nat, PyProof.Rows.cnt c l = ((l.filter (· == c)).length : Nat)
  | [] => rfl
  | x :: r => by
    rw [PyProof.Rows.cnt_cons, cnt_filter c r, List.filter_cons]
    by_cases h : x = c
    · simp [h]; omega
    · simp [h]
theorem count_sound {l : List Nat} {c : Nat} {t u : Tok} (k : ∀ t' T, s.toks ≤ T → Q (.int ((l.filter (· == c)).length : Nat) t') { s with toks := T }) :
    wpAny (model C.prog C.w) A (call (.builtin "str.count") [.str ⟨l.toArray⟩ t, .str ⟨[c].toArray⟩ u]) Q E s := by
  refine call_gives F.slot_str_count (typeIs_str _ _ _) F.entry_str_count (F.args_str_count_2 _ _) (gives_str_count ⟨l.toArray⟩ ⟨[c].toArray⟩ t u) ?_
  obtain ⟨f, hG, hn⟩ := StrLaws.occ_tight ⟨l.toArray⟩ ⟨#[c]⟩ (Nat.le_refl 1)
  have := PyProof.Rows.chain_count ⟨l.toArray⟩ c _ 0 f hG hn
  rw [List.drop_zero, cnt_filter] at this
  have k' := k s.toks (s.toks + 1) (Nat.le_succ _)
  rw [this] at k'
  exact k'
theorem len_back : ∀ as : MEs, (as.back N).length = as.len
  | .nil => rfl
  | .cons _ r => by show (r.back N).length + 1 = r.len + 1; rw [len_back r]

theorem meth_rep {X : Hp} {a : V} {vs : List V} (e : meth X .replace a vs h = some (v, h')) : ∃ l y z, a = .str l ∧ vs = [.str y, .str z] ∧ (y ≠ [] ∧ l.length + (l.length + 1) * z.length ≤ LIM) ∧ v = .str (replace y z l) ∧ h' = h := by
  cases a <;> try (exfalso; cases e)
  rename_i l
  replace e := (show mRep l h vs = some (v, h') from e)
  unfold mRep at e
  split at e
  · rename_i y z
    by_cases hc : y ≠ [] ∧ l.length + (l.length + 1) * z.length ≤ LIM
    · rw [if_pos hc] at e
      cases e
      exact ⟨l, y, z, rfl, rfl, hc, rfl, rfl⟩
    · rw [if_neg hc] at e; cases e
  · cases e
theorem meth_find {X : Hp} {a : V} {vs : List V} (e : meth X .find a vs h = some (v, h')) : ∃ l c i, a = .str l ∧ vs = [.str [c], .int i] ∧ (0 ≤ i ∧ i ≤ l.length) ∧ v = .int (match fst1 c (l.drop i.toNat) with | some k => i + k | .none => -1) ∧ h' = h := by
  cases a <;> try (exfalso; cases e)
  rename_i l
  replace e := (show mFind l h vs = some (v, h') from e)
  unfold mFind at e
  split at e
  · rename_i c i
    by_cases hc : 0 ≤ i ∧ i ≤ l.length
    · rw [if_pos hc] at e
      cases e
      exact ⟨l, c, i, rfl, rfl, hc, rfl, rfl⟩
    · rw [if_neg hc] at e; cases e
  · cases e
theorem meth_count {X : Hp} {a : V} {vs : List V} (e : meth X .count a vs h = some (v, h')) : ∃ l c, a = .str l ∧ vs = [.str [c]] ∧ v = .int ((l.filter (· == c)).length : Nat) ∧ h' = h := by
  cases a <;> try (exfalso; cases e)
  rename_i l
  replace e := (show mCount l h vs = some (v, h') from e)
  unfold mCount at e
  split at e
  · rename_i c
    cases e
    exact ⟨l, c, rfl, rfl, rfl, rfl⟩
  · cases e

theorem repArgs_inv {as : MEs} (h : repArgs as = true) : ∃ y py z pz, as = .cons (.cst (.str y) py) (.cons (.cst (.str z) pz) .nil) := by
  unfold repArgs at h
  cases h1 : as.two with
  | none => rw [h1] at h; cases h
  | some q =>
    obtain ⟨a, r⟩ := q
    rw [h1] at h
    obtain ⟨h2, h3⟩ := Bool.and_eq_true_iff.mp h
    cases h4 : r.two with
    | none => rw [h4] at h3; cases h3
    | some q =>
      obtain ⟨b, t⟩ := q
      rw [h4] at h3
      obtain ⟨h5, h6⟩ := Bool.and_eq_true_iff.mp h3
      obtain ⟨y, hy⟩ := Option.isSome_iff_exists.mp h2
      obtain ⟨z, hz⟩ := Option.isSome_iff_exists.mp h5
      obtain ⟨py, rfl⟩ := strOf_inv hy
      obtain ⟨pz, rfl⟩ := strOf_inv hz
      exact ⟨y, py, z, pz, by rw [two_inv h1, two_inv h4, two_nil (Option.isNone_iff_eq_none.mp h6)]⟩
theorem on_str {n : Mt} {id : String} {l : List Nat} {x : ME} {ap p : Pos} {as : MEs} (ih : SEv C S d) (V₀ : EnvOk C N sc env A₀) (hA : AOk A d) (okx : x.ok N sc = true) (okp : (ap.endLine == p.line) = true) (okl : as.len < 30) (okc : x.notCall = true) (slot : Slot "str" (Str.ofString n.name) id) (ty : typeOf (.builtin id) = pure (.type "method_descriptor"))
    {h1 : Hp} (e1 : S.ev x m h = some (.str l, h1)) (G : Gd C.w C.L C.G β s.toks h s.heap) (Fm : Frm C.L C.G N β s.toks m A₀ s.heap)
    (k : ∀ y β1 H1 T1, s.toks ≤ T1 → Ext β s.heap β1 H1 → Gd C.w C.L C.G β1 T1 h1 H1 → VR C.L β1 T1 (.str l) y → wpAny (model C.prog C.w) A (spliced ((as.back N).map fun e => (false, eval e env))) (fun xs s' => wpAny (model C.prog C.w) A (call (.builtin id) ([y] ++ xs)) Q E s') E { s with heap := H1, toks := T1 }) :
    GE C N env A Q E s (ME.meth n x ap as p) := by
  refine wpAny_Call_method (T := "str") (id := id) (base_plain okc) (by rw [trees, show backToKw p (keywordEach [] env) = [] from rfl]; simp [okl, len_back]) okp F.plainAttrs_str slot ty ?_
  refine ih x N sc env A₀ A m h h1 _ okx V₀ hA e1 s β _ E G Fm fun ya β1 H1 T1 t1 x1 g1 r1 => ?_
  have hT : Shared.TypeIs { s with heap := H1, toks := T1 } ya "str" := by obtain ⟨t, rfl, _⟩ := r1; exact typeIs_str _ _ _
  exact ⟨hT, fun b hb => (by obtain ⟨t, rfl, _⟩ := r1; cases hb), withB (k ya β1 H1 T1 t1 x1 g1 r1)⟩

theorem ev_meth {n : Mt} {x : ME} {ap p : Pos} {as : MEs} (ok0 : C.Ok) (ih : SEv C S d) (V₀ : EnvOk C N sc env A₀) (hA : AOk A d) (hev : ∀ (c : C0) (p : Pos) (m : M) (h : Hp) r, S.ev (.cst c p) m h = some r → r = (c.val, h)) (ok : ME.ok N sc (.meth n x ap as p) = true) (e : stepE C.X S (.meth n x ap as p) m h = some (v, h')) (G : Gd C.w C.L C.G β s.toks h s.heap) (Fm : Frm C.L C.G N β s.toks m A₀ s.heap) (pst : Pst C s β h' v Q) :
    GE C N env A Q E s (ME.meth n x ap as p) := by
  replace ok := (show (_ && _) = true from ok)
  simp only [Bool.and_eq_true, decide_eq_true_eq] at ok
  obtain ⟨⟨⟨⟨⟨okx, oka⟩, okp⟩, okr⟩, okl⟩, okc⟩ := ok
  obtain ⟨⟨a, h1⟩, e1, e2⟩ := bind_some e
  obtain ⟨⟨vs, h2⟩, e3, e4⟩ := bind_some e2
  cases n with
  | replace =>
    obtain ⟨l, y0, z0, rfl, rfl, hcond, rfl, rfl⟩ := meth_rep e4
    obtain ⟨y, py, z, pz, rfl⟩ := repArgs_inv okr
    · obtain ⟨⟨v1, h3⟩, e5, e6⟩ := bind_some e3
      obtain ⟨⟨vs', h4⟩, e7, e8⟩ := bind_some e6
      obtain ⟨⟨v2, h5⟩, e9, e10⟩ := bind_some e7
      cases hev _ _ _ _ _ e5
      cases hev _ _ _ _ _ e9
      cases e10
      cases e8
      refine on_str ih V₀ hA okx okp okl okc F.slot_str_replace F.type_str_replace e1 G Fm fun ya β1 H1 T1 t1 x1 g1 r1 => ?_
      refine spliced_cons (Constant_str (spliced_cons (Constant_str (spliced_nil ?_))))
      have r2 : VR C.L β1 (T1 + 1 + 1) (.str l) ya := r1.mono (Pre.refl _) (Nat.le_trans (Nat.le_succ _) (Nat.le_succ _))
      exact rep_sound (s := { s with heap := H1, toks := T1 + 1 + 1 }) ok0 (g1.toks (Nat.le_trans (Nat.le_succ _) (Nat.le_succ _))) r2 (u := T1) (v' := T1 + 1) g1.pos (Nat.succ_pos _) (Nat.ne_of_lt (Nat.lt_succ_self _)) hcond.1 hcond.2 (pst.step (Nat.le_trans t1 (Nat.le_trans (Nat.le_succ _) (Nat.le_succ _))) x1)
  | find =>
    obtain ⟨l, c, i, rfl, rfl, hi, rfl, rfl⟩ := meth_find e4
    refine on_str ih V₀ hA okx okp okl okc F.slot_str_find F.type_str_find e1 G Fm fun ya β1 H1 T1 t1 x1 g1 r1 => ?_
    refine args_sound ih V₀ hA as h1 _ _ oka e3 { s with heap := H1, toks := T1 } β1 _ E g1 (Fm.ext x1 t1) fun xs β2 H2 T2 t2 x2 g2 r2 => ?_
    obtain ⟨b, q, rfl, rb, rq⟩ := r2.two
    obtain ⟨t, rfl, _⟩ := r1
    obtain ⟨u, rfl, _⟩ := rb
    obtain ⟨w, rfl⟩ := rq
    exact find_sound (s := { s with heap := H2, toks := T2 }) hi.1 hi.2 fun k T tt => (pst.step (Nat.le_trans t1 t2) (x1.trans x2)).same (s := { s with heap := H2, toks := T2 }) g2 tt ⟨k, rfl⟩
  | count =>
    obtain ⟨l, c, rfl, rfl, rfl, rfl⟩ := meth_count e4
    refine on_str ih V₀ hA okx okp okl okc F.slot_str_count F.type_str_count e1 G Fm fun ya β1 H1 T1 t1 x1 g1 r1 => ?_
    refine args_sound ih V₀ hA as h1 _ _ oka e3 { s with heap := H1, toks := T1 } β1 _ E g1 (Fm.ext x1 t1) fun xs β2 H2 T2 t2 x2 g2 r2 => ?_
    obtain ⟨b, rfl, rb⟩ := r2.one
    obtain ⟨t, rfl, _⟩ := r1
    obtain ⟨u, rfl, _⟩ := rb
    exact count_sound (s := { s with heap := H2, toks := T2 }) fun k T tt => (pst.step (Nat.le_trans t1 t2) (x1.trans x2)).same (s := { s with heap := H2, toks := T2 }) g2 tt ⟨k, rfl⟩
end
end Mine

end

section
open PySem PySem.Calls PyProof.Rows PySem.W
namespace Mine
section
variable {C : Cx} {N : Nm} {sc : Scope} {env : Env} {A₀ : Addr} {A : Around} {d : Nat} {m : M} {h h' : Hp} {v : V} {s : Shared} {β : List Addr} {Q : Value → Shared → Prop} {E : Value → Shared → Prop} {S : Sm}

theorem bname {n : Bi} {p : Pos} {Q : Value → Shared → Prop} (ok0 : C.Ok) (V₀ : EnvOk C N sc env A₀) (ok : (sc.names.lookup (Str.ofString n.name) == some .globalImplicit) = true) (G : Gd C.w C.L C.G β s.toks h s.heap) (k : Q n.value s) :
    wpAny (model C.prog C.w) A (eval (.Name (Str.ofString n.name) p) env) Q E s := by
  obtain ⟨b1, b2⟩ := ok0.bi n
  refine Name_function_global (by rw [V₀.scp]; exact V₀.kind) (by unfold Env.kindOf; rw [V₀.scp]; exact beq_iff_eq.mp ok)
    (loadGlobal_builtin (mg := C.mg) (mb := C.mb) (by rw [V₀.glo]; exact ok0.g.keeps G.base) b1 (by rw [V₀.blt]; exact ok0.b.keeps G.base) b2 k) (by cases n <;> decide +kernel)

theorem one_arg {x : V} {xs : List Value} {T : Nat} (r : All2 (VR C.L β T) [x] xs) : ∃ y, xs = [y] ∧ VR C.L β T x y := by
  exact r.one
theorem lenv_inv {X : Hp} {i : Int} (e : lenv X h v = some i) : (∃ l, v = .str l ∧ i = (l.length : Nat)) ∨ ∃ xs, obj X h v = some (.list xs) ∧ i = (xs.length : Nat) := by
  cases v with
  | str l => cases e; exact .inl ⟨l, rfl, rfl⟩
  | ref k =>
    obtain ⟨o, e1, e2⟩ := bind_some (show ((obj X h (.ref k)).bind fun o => _) = some i from e)
    cases o with
    | list xs => cases e2; exact .inr ⟨xs, e1, rfl⟩
    | _ => cases e2
  | ext k =>
    obtain ⟨o, e1, e2⟩ := bind_some (show ((obj X h (.ext k)).bind fun o => _) = some i from e)
    cases o with
    | list xs => cases e2; exact .inr ⟨xs, e1, rfl⟩
    | _ => cases e2
  | _ => cases e
theorem bcall_inv {X : Hp} {n : Bi} {vs : List V} (e : bcall X n vs h = some (v, h')) : h' = h ∧ ((∃ u i, n = .len ∧ vs = [u] ∧ lenv X h u = some i ∧ v = .int i) ∨ ∃ i, n = .abs ∧ vs = [.int i] ∧ v = .int i.natAbs) := by
  unfold bcall at e
  split at e
  · cases n with
    | len =>
      obtain ⟨i, e1, e2⟩ := map_some e
      cases e2
      exact ⟨rfl, .inl ⟨_, i, rfl, rfl, e1, rfl⟩⟩
    | abs =>
      dsimp only at e
      split at e
      · cases e; exact ⟨rfl, .inr ⟨_, rfl, rfl, rfl⟩⟩
      · cases e
    | _ => cases e
  · cases e
theorem bcall_sound (ok0 : C.Ok) (hA : A.handled = none) {n : Bi} {vs : List V} {xs : List Value} (G : Gd C.w C.L C.G β s.toks h s.heap) (e : bcall C.X n vs h = some (v, h')) (r : All2 (VR C.L β s.toks) vs xs) (pst : Pst C s β h' v Q) :
    ∃ id, n.value = .builtin id ∧ wpAny (model C.prog C.w) A (call (.builtin id) xs) Q E s := by
  obtain ⟨rfl, ⟨u, i, rfl, rfl, e1, rfl⟩ | ⟨i, rfl, rfl, rfl⟩⟩ := bcall_inv e
  · obtain ⟨x, rfl, r0⟩ := one_arg r
    rcases lenv_inv e1 with ⟨l, rfl, rfl⟩ | ⟨vs, e2, rfl⟩
    · obtain ⟨t, rfl, t0, t1, tl⟩ := r0
      have hl : (⟨l.toArray⟩ : Str).length = l.length := by simp [Str.length]
      refine ⟨"len", rfl, PyProof.Rows.len_str (by rw [hl]; unfold LIM at tl; omega) ?_⟩
      rw [hl]
      exact pst.same G (Nat.le_trans (Nat.le_succ _) (Nat.le_succ _)) ⟨_, rfl⟩
    · obtain ⟨a, ob, rfl, q, z, lo⟩ := obj_at ok0 G e2 r0
      obtain ⟨items, hl, al, le⟩ := OR.isList q z
      have hs : items.size = _ := (Array.length_toList (xs := items)).symm.trans al.length.symm
      refine ⟨"len", rfl, PyProof.Rows.len_list hl (by rw [hs]; unfold LIM at le; omega) ?_⟩
      rw [hs]
      exact pst.same G (Nat.le_trans (Nat.le_succ _) (Nat.le_succ _)) ⟨_, rfl⟩
  · obtain ⟨x, rfl, r0⟩ := one_arg r
    obtain ⟨t, rfl⟩ := r0
    refine ⟨"abs", rfl, with_toks (call_abs_int fun u tk ht => ?_)⟩
    have : (if i < 0 then -i else i) = (i.natAbs : Int) := by split <;> omega
    rw [this]
    exact pst.same G ht ⟨_, rfl⟩

theorem ev_isStr {x : ME} {np tp p : Pos} (ok0 : C.Ok) (ih : SEv C S d) (V₀ : EnvOk C N sc env A₀) (hA : AOk A d) (ok : ME.ok N sc (.isStr x np tp p) = true) (e : stepE C.X S (.isStr x np tp p) m h = some (v, h')) (G : Gd C.w C.L C.G β s.toks h s.heap) (Fm : Frm C.L C.G N β s.toks m A₀ s.heap) (pst : Pst C s β h' v Q) :
    GE C N env A Q E s (ME.isStr x np tp p) := by
  replace ok := (show (_ && _) = true from ok)
  simp only [Bool.and_eq_true] at ok
  obtain ⟨⟨a, h1⟩, e1, e2⟩ := bind_some e
  show wpAny _ _ (eval (.Call (.Name (Str.ofString Bi.isinstance.name) np) [x.back N, .Name (Str.ofString Bi.strT.name) tp] [] p) env) Q E s
  refine Call_ (bname ok0 V₀ ok.1.2 G ?_)
  have hst : starEach [x.back N, .Name (Str.ofString Bi.strT.name) tp] env = [(false, eval (x.back N) env), (false, eval (.Name (Str.ofString Bi.strT.name) tp) env)] := by
    have := star_plain (N := N) (env := env) (.cons x .nil)
    have h2 : starEach [x.back N, .Name (Str.ofString Bi.strT.name) tp] env = (starEach [x.back N] env) ++ [(false, eval (.Name (Str.ofString Bi.strT.name) tp) env)] := by
      cases x <;> (try rfl)
      rename_i sp ks vs p
      cases sp <;> rfl
    rw [h2, show [x.back N] = (MEs.cons x .nil).back N from rfl, this]; rfl
  rw [hst]
  refine callWith_builtin (by simp [backTo]) (evalArgs_plain (spliced_cons ?_))
  refine ih x N sc env A₀ A m h h1 a ok.1.1 V₀ hA e1 s β _ E G Fm fun y β1 H1 T1 t1 x1 g1 r1 => ?_
  refine spliced_cons (bname (s := { s with heap := H1, toks := T1 }) ok0 V₀ ok.2 g1 (spliced_nil ?_))
  have P1 := pst.step t1 x1
  dsimp only at e2
  split at e2
  · cases e2
    obtain ⟨t, rfl, _⟩ := r1
    exact call_isinstance (isinstance_true (Tx := "str") PyProof.Rows.meta_str PyProof.Rows.sub_str_str) ⟨typeIs_str _ _ _, P1.here (s := { s with heap := H1, toks := T1 }) g1 rfl⟩
  · obtain ⟨o, ho, e2⟩ := bind_some e2
    obtain ⟨a, ob, rfl, q, z, lo⟩ := obj_at ok0 g1 ho r1
    cases o with
    | tup vs =>
      cases e2
      obtain ⟨items, n, dd, sl, rfl, al, le⟩ := z
      exact call_isinstance (isinstance_false_tuple (by decide) PyProof.Rows.meta_str PyProof.Rows.sub_tuple_str) ⟨⟨_, q, rfl⟩, P1.same (s := { s with heap := H1, toks := T1 }) g1 (Nat.le_succ _) rfl⟩
    | _ => cases e2

theorem ev_bcall {n : Bi} {np p : Pos} {as : MEs} (ok0 : C.Ok) (ih : SEv C S d) (V₀ : EnvOk C N sc env A₀) (hA : AOk A d) (ok : ME.ok N sc (.bcall n np as p) = true) (e : stepE C.X S (.bcall n np as p) m h = some (v, h')) (G : Gd C.w C.L C.G β s.toks h s.heap) (Fm : Frm C.L C.G N β s.toks m A₀ s.heap) (pst : Pst C s β h' v Q) :
    GE C N env A Q E s (ME.bcall n np as p) := by
  replace ok := (show (_ && _) = true from ok)
  simp only [Bool.and_eq_true] at ok
  obtain ⟨⟨vs, h1⟩, e1, e2⟩ := bind_some e
  show wpAny _ _ (eval (.Call (.Name (Str.ofString n.name) np) (as.back N) [] p) env) Q E s
  refine Call_ (bname ok0 V₀ ok.1 G ?_)
  obtain ⟨id, hid⟩ : ∃ id, n.value = .builtin id := by
    obtain ⟨_, ⟨_, _, rfl, _⟩ | ⟨_, rfl, _⟩⟩ := bcall_inv e2 <;> exact ⟨_, rfl⟩
  rw [hid]
  refine withB (args_sound ih V₀ hA as h h1 vs ok.2 e1 s β _ E G Fm fun xs β1 H1 T1 t1 x1 g1 r1 => ?_)
  obtain ⟨id', hid', hw⟩ := bcall_sound (s := { s with heap := H1, toks := T1 }) (A := A) (E := E) ok0 hA.hd g1 e2 r1 (pst.step t1 x1)
  rw [hid] at hid'
  cases hid'
  exact hw

theorem ev_call {f : ME} {p : Pos} {as : MEs} (ok0 : C.Ok) (ih : SEv C S d) (ic : SCl C S d) (V₀ : EnvOk C N sc env A₀) (hA : AOk A d) (ok : ME.ok N sc (.call f as p) = true) (e : stepE C.X S (.call f as p) m h = some (v, h')) (G : Gd C.w C.L C.G β s.toks h s.heap) (Fm : Frm C.L C.G N β s.toks m A₀ s.heap) (pst : Pst C s β h' v Q) :
    GE C N env A Q E s (ME.call f as p) := by
  replace ok := (show (_ && _) = true from ok)
  simp only [Bool.and_eq_true] at ok
  obtain ⟨⟨okf, oka⟩, okn⟩ := ok
  obtain ⟨⟨fv, h1⟩, e1, e2⟩ := bind_some e
  obtain ⟨⟨vs, h2⟩, e3, e4⟩ := bind_some e2
  simp only at e4
  split at e4
  · rename_i g
    have he : eval (.Call (f.back N) (as.back N) [] p) env = (do callWith p (← eval (f.back N) env) [] (backTo p (starEach (as.back N) env)) (backToKw p (keywordEach [] env))) := by
      cases f <;> first | rfl | (exact absurd okn Bool.false_ne_true)
    show wpAny _ _ (eval (.Call (f.back N) (as.back N) [] p) env) Q E s
    refine Call_ ?_ he
    refine ih f N sc env A₀ A m h h1 _ okf V₀ hA e1 s β _ E G Fm fun y β1 H1 T1 t1 x1 g1 r1 => ?_
    obtain ⟨a, ha, rfl⟩ := r1
    obtain ⟨_, o, fd, ho, hd⟩ := ok0.fn g a ha
    have args := fun Q E k => args_sound ih V₀ hA as h1 h2 vs oka e3 { s with heap := H1, toks := T1 } β1 Q E g1 (Fm.ext x1 t1) k
    have k : PstL C { s with heap := H1, toks := T1 } β1 h2 vs (fun xs s₁ => (s₁.heap.get? a = some o ∧ o.data = .func fd) ∧ wpAny (model C.prog C.w) A (call (.ref a) xs) Q E s₁) := by
      intro xs β2 H2 T2 t2 x2 g2 r2
      refine ⟨⟨g2.base _ _ ho, hd⟩, wpAny_call ?_⟩
      refine ic g vs h2 h' v A hA e4 { s with heap := H2, toks := T2 } β2 a xs _ ha r2 g2 fun x β3 H3 T3 t3 x3 g3 r3 => ?_
      exact pst x β3 H3 T3 (Nat.le_trans t1 (Nat.le_trans t2 t3)) (x1.trans (x2.trans x3)) g3 r3
    rw [trees]
    refine callWith_function (o := o) (fd := fd) ?_
    cases as with
    | nil =>
      refine PySem.evalArgs_none ?_
      cases e3
      exact k [] β1 H1 T1 (Nat.le_refl _) (Ext.refl _ _) g1 trivial
    | cons x r => exact evalArgs_plain (args _ _ k)
  · cases e4
end
end Mine

end

section
open PySem PySem.Calls PyProof.Rows PySem.W
namespace Mine
section
variable {C : Cx} {N : Nm} {sc : Scope} {env : Env} {A₀ : Addr} {A : Around} {d : Nat} {m : M} {h h' : Hp} {v : V} {s : Shared} {β : List Addr} {Q : Value → Shared → Prop} {E : Value → Shared → Prop} {S : Sm}

theorem noMarks {op : CmpOp} : ∀ r : ME, behindInMarks op (r.back N) = false := by
  intro r
  cases r <;> first | rfl | (rename_i sp ks vs p; cases sp <;> rfl)

theorem stepE_sound (ok0 : C.Ok) (ih : SEv C S d) (it : STr C S d) (ic : SCl C S d) (hev : ∀ (c : C0) (p : Pos) (m : M) (h : Hp) r, S.ev (.cst c p) m h = some r → r = (c.val, h))
    (e : ME) (ok : e.ok N sc = true) (V₀ : EnvOk C N sc env A₀) (hA : AOk A d) (hs : stepE C.X S e m h = some (v, h')) (G : Gd C.w C.L C.G β s.toks h s.heap) (Fm : Frm C.L C.G N β s.toks m A₀ s.heap) (pst : Pst C s β h' v Q) :
    GE C N env A Q E s e := by
  cases e with
  | loc i p => exact ev_loc V₀ ok hs G Fm pst
  | glob i p => exact ev_glob ok0 V₀ ok hs G pst
  | cst c p => exact ev_cst ok hs G pst
  | bin op l r p =>
    replace ok := (show (_ && _) = true from ok)
    simp only [Bool.and_eq_true] at ok
    obtain ⟨⟨a, h1⟩, e1, e2⟩ := bind_some hs
    obtain ⟨⟨b, h2⟩, e3, e4⟩ := bind_some e2
    obtain ⟨v', e5, e6⟩ := map_some e4
    cases e6
    refine wpAny_BinOp ?_
    refine ih l N sc env A₀ A m h h1 a ok.1 V₀ hA e1 s β _ E G Fm fun x β1 H1 T1 t1 x1 g1 r1 => ?_
    refine ih r N sc env A₀ A m h1 _ b ok.2 V₀ hA e3 { s with heap := H1, toks := T1 } β1 _ E g1 (Fm.ext x1 t1) fun y β2 H2 T2 t2 x2 g2 r2 => ?_
    have P2 := (pst.step t1 x1).step t2 x2
    refine binop_sound (s := { s with heap := H2, toks := T2 }) hA.hd g2 e5 (r1.mono x2.pre t2) r2 (fun f z h1 h2 h3 u t => ?_) P2
    subst h1 h2 h3
    exact pct_sound (s := { s with heap := H2, toks := T2 }) g2 e5 P2
  | cmp op l r p =>
    replace ok := (show (_ && _) = true from ok)
    simp only [Bool.and_eq_true] at ok
    obtain ⟨⟨a, h1⟩, e1, e2⟩ := bind_some hs
    obtain ⟨⟨b, h2⟩, e3, e4⟩ := bind_some e2
    obtain ⟨c, e5, e6⟩ := map_some e4
    cases e6
    refine wpAny_Compare1 ?_ (noMarks r)
    refine ih l N sc env A₀ A m h h1 a ok.1 V₀ hA e1 s β _ E G Fm fun x β1 H1 T1 t1 x1 g1 r1 => ?_
    refine ih r N sc env A₀ A m h1 _ b ok.2 V₀ hA e3 { s with heap := H1, toks := T1 } β1 _ E g1 (Fm.ext x1 t1) fun y β2 H2 T2 t2 x2 g2 r2 => ?_
    have P2 := (pst.step t1 x1).step t2 x2
    exact cmp_sound (s := { s with heap := H2, toks := T2 }) ok0 hA g2 e5 (r1.mono x2.pre t2) r2 fun T t => P2.same g2 t rfl
  | and2 l r p =>
    replace ok := (show (_ && _) = true from ok)
    simp only [Bool.and_eq_true] at ok
    obtain ⟨⟨a, h1⟩, e1, e2⟩ := bind_some hs
    obtain ⟨t, e3, e4⟩ := bind_some e2
    refine BoolOp_and ?_
    refine ih l N sc env A₀ A m h h1 a ok.1 V₀ hA e1 s β _ E G Fm fun x β1 H1 T1 t1 x1 g1 r1 => ?_
    refine truth_sound (s := { s with heap := H1, toks := T1 }) ok0 g1 r1 e3 fun T2 t2 => ?_
    cases t with
    | true =>
      refine BoolOp_one (ih r N sc env A₀ A m h1 h' v ok.2 V₀ hA e4 { s with heap := H1, toks := T2 } β1 _ E (g1.toks t2) (Fm.ext x1 (Nat.le_trans t1 t2)) (pst.step (Nat.le_trans t1 t2) x1))
    | false => cases e4; exact pst x β1 H1 T2 (Nat.le_trans t1 t2) x1 (g1.toks t2) (r1.mono (Pre.refl _) t2)
  | or2 l r p =>
    replace ok := (show (_ && _) = true from ok)
    simp only [Bool.and_eq_true] at ok
    obtain ⟨⟨a, h1⟩, e1, e2⟩ := bind_some hs
    obtain ⟨t, e3, e4⟩ := bind_some e2
    refine BoolOp_or ?_
    refine ih l N sc env A₀ A m h h1 a ok.1 V₀ hA e1 s β _ E G Fm fun x β1 H1 T1 t1 x1 g1 r1 => ?_
    refine truth_sound (s := { s with heap := H1, toks := T1 }) ok0 g1 r1 e3 fun T2 t2 => ?_
    cases t with
    | false =>
      refine BoolOp_one (ih r N sc env A₀ A m h1 h' v ok.2 V₀ hA e4 { s with heap := H1, toks := T2 } β1 _ E (g1.toks t2) (Fm.ext x1 (Nat.le_trans t1 t2)) (pst.step (Nat.le_trans t1 t2) x1))
    | true => cases e4; exact pst x β1 H1 T2 (Nat.le_trans t1 t2) x1 (g1.toks t2) (r1.mono (Pre.refl _) t2)
  | isStr x np tp p => exact ev_isStr ok0 ih V₀ hA ok hs G Fm pst
  | not x p =>
    replace ok := (show ME.ok N sc _ = true from ok)
    obtain ⟨⟨a, h1⟩, e1, e2⟩ := bind_some hs
    obtain ⟨t, e3, e4⟩ := map_some e2
    cases e4
    refine UnaryOp_ ?_
    refine ih x N sc env A₀ A m h _ a ok V₀ hA e1 s β _ E G Fm fun x β1 H1 T1 t1 x1 g1 r1 => ?_
    refine not_of (truth_sound (s := { s with heap := H1, toks := T1 }) ok0 g1 r1 e3 fun T2 t2 => ?_)
    exact pst _ β1 H1 T2 (Nat.le_trans t1 t2) x1 (g1.toks t2) rfl
  | neg x p =>
    replace ok := (show ME.ok N sc _ = true from ok)
    obtain ⟨⟨a, h1⟩, e1, e2⟩ := bind_some hs
    refine UnaryOp_ ?_
    refine ih x N sc env A₀ A m h _ a ok V₀ hA e1 s β _ E G Fm fun x β1 H1 T1 t1 x1 g1 r1 => ?_
    simp only at e2
    split at e2
    · cases e2
      obtain ⟨t, rfl⟩ := r1
      exact PyProof.Rows.neg_int (pst _ β1 H1 (T1 + 1) (Nat.le_succ_of_le t1) x1 (g1.toks (Nat.le_succ _)) ⟨_, rfl⟩)
    · cases e2
  | ite t b o p =>
    replace ok := (show (_ && _) = true from ok)
    simp only [Bool.and_eq_true] at ok
    obtain ⟨⟨a, h1⟩, e1, e2⟩ := bind_some hs
    obtain ⟨c, e3, e4⟩ := bind_some e2
    refine IfExp_ ?_
    refine it t N sc env A₀ A m h h1 a c ok.1.1 V₀ hA e1 e3 s β _ E G Fm fun β1 H1 T1 t1 x1 g1 => ?_
    cases c with
    | true => exact ih b N sc env A₀ A m h1 h' v ok.1.2 V₀ hA e4 { s with heap := H1, toks := T1 } β1 _ E g1 (Fm.ext x1 t1) (pst.step t1 x1)
    | false => exact ih o N sc env A₀ A m h1 h' v ok.2 V₀ hA e4 { s with heap := H1, toks := T1 } β1 _ E g1 (Fm.ext x1 t1) (pst.step t1 x1)
  | idx x i p =>
    replace ok := (show (_ && _) = true from ok)
    simp only [Bool.and_eq_true] at ok
    obtain ⟨⟨a, h1⟩, e1, e2⟩ := bind_some hs
    obtain ⟨⟨b, h2⟩, e3, e4⟩ := bind_some e2
    obtain ⟨v', e5, e6⟩ := map_some e4
    cases e6
    refine Subscript_ ?_
    refine ih x N sc env A₀ A m h h1 a ok.1 V₀ hA e1 s β _ E G Fm fun x β1 H1 T1 t1 x1 g1 r1 => ?_
    refine ih i N sc env A₀ A m h1 _ b ok.2 V₀ hA e3 { s with heap := H1, toks := T1 } β1 _ E g1 (Fm.ext x1 t1) fun y β2 H2 T2 t2 x2 g2 r2 => ?_
    exact idx_sound (s := { s with heap := H2, toks := T2 }) ok0 g2 e5 (r1.mono x2.pre t2) r2 (fun l u p => noSlice _ l u p) ((pst.step t1 x1).step t2 x2)
  | slice x lo hi sp p => exact ev_slice ih V₀ hA ok hs G Fm pst
  | call f as p => exact ev_call ok0 ih ic V₀ hA ok hs G Fm pst
  | bcall n np as p => exact ev_bcall ok0 ih V₀ hA ok hs G Fm pst
  | meth n x ap as p =>
    exact ev_meth ok0 ih V₀ hA hev ok hs G Fm pst
  | list es p => exact ev_list ih V₀ hA ok hs G Fm pst
  | tup es p => exact ev_tup ih V₀ hA ok hs G Fm pst
  | dict sp ks vs p =>
    cases sp with
    | no => exact ev_dict0 ok hs G pst
    | yes x => exact ev_spread ok0 ih V₀ hA ok hs G Fm pst
end
end Mine

end

section
open PySem PySem.Calls PyProof.Rows PySem.W
namespace Mine
section
variable {C : Cx} {N : Nm} {sc : Scope} {env : Env} {A₀ : Addr} {A : Around} {d : Nat} {m : M} {h h' : Hp} {v : V} {s : Shared} {β : List Addr} {Q : Bool → Shared → Prop} {E : Value → Shared → Prop} {S : Sm}

theorem stepT_sound (ok0 : C.Ok) (ih : SEv C S d) (it : STr C S d) (ic : SCl C S d) (hev : ∀ (c : C0) (p : Pos) (m : M) (h : Hp) r, S.ev (.cst c p) m h = some r → r = (c.val, h)) {t : Bool}
    (e : ME) (ok : e.ok N sc = true) (V₀ : EnvOk C N sc env A₀) (hA : AOk A d) (hs : stepE C.X S e m h = some (v, h')) (ht : truth C.X h' v = some t) (G : Gd C.w C.L C.G β s.toks h s.heap) (Fm : Frm C.L C.G N β s.toks m A₀ s.heap)
    (k : ∀ β' H' T', s.toks ≤ T' → Ext β s.heap β' H' → Gd C.w C.L C.G β' T' h' H' → Q t { s with heap := H', toks := T' }) :
    wpAny (model C.prog C.w) A (isTrue (e.back N) env (eval (e.back N) env)) Q E s := by
  have plain : ∀ (he : isTrue (e.back N) env (eval (e.back N) env) = (do let v ← eval (e.back N) env; standAt (e.back N).pos; holding [v] (truthy v))), wpAny (model C.prog C.w) A (isTrue (e.back N) env (eval (e.back N) env)) Q E s := by
    intro he
    refine isTrue_plain ?_ he
    refine stepE_sound ok0 ih it ic hev e ok V₀ hA hs G Fm fun x β1 H1 T1 t1 x1 g1 r1 => ?_
    exact truth_sound (s := { s with heap := H1, toks := T1 }) ok0 g1 r1 ht fun T2 t2 => k β1 H1 T2 (Nat.le_trans t1 t2) x1 (g1.toks t2)
  have k' : ∀ {β1 H1 T1} (t1 : s.toks ≤ T1) (x1 : Ext β s.heap β1 H1), ∀ β' H' T', T1 ≤ T' → Ext β1 H1 β' H' → Gd C.w C.L C.G β' T' h' H' → Q t { s with heap := H', toks := T' } :=
    fun t1 x1 β' H' T' t2 x2 g2 => k β' H' T' (Nat.le_trans t1 t2) (x1.trans x2) g2
  cases e with
  | cmp op l r p =>
    replace ok := (show (_ && _) = true from ok)
    simp only [Bool.and_eq_true] at ok
    obtain ⟨⟨a, h1⟩, e1, e2⟩ := bind_some hs
    obtain ⟨⟨b, h2⟩, e3, e4⟩ := bind_some e2
    obtain ⟨c, e5, e6⟩ := map_some e4
    cases e6
    cases ht
    refine wpAny_isTrue_Compare1 ?_ (noMarks r)
    refine ih l N sc env A₀ A m h h1 a ok.1 V₀ hA e1 s β _ E G Fm fun x β1 H1 T1 t1 x1 g1 r1 => ?_
    refine ih r N sc env A₀ A m h1 _ b ok.2 V₀ hA e3 { s with heap := H1, toks := T1 } β1 _ E g1 (Fm.ext x1 t1) fun y β2 H2 T2 t2 x2 g2 r2 => ?_
    exact cmp_sound (s := { s with heap := H2, toks := T2 }) ok0 hA g2 e5 (r1.mono x2.pre t2) r2 fun T t3 => wpAny_truthy_bool (k β2 H2 T (Nat.le_trans t1 (Nat.le_trans t2 t3)) (x1.trans x2) (g2.toks t3))
  | and2 l r p =>
    replace ok := (show (_ && _) = true from ok)
    simp only [Bool.and_eq_true] at ok
    obtain ⟨⟨a, h1⟩, e1, e2⟩ := bind_some hs
    obtain ⟨t1, e3, e4⟩ := bind_some e2
    refine isTrue_and (it l N sc env A₀ A m h h1 a t1 ok.1 V₀ hA e1 e3 s β _ E G Fm fun β1 H1 T1 q1 x1 g1 => ?_)
    cases t1 with
    | true =>
      refine isTrue_and (it r N sc env A₀ A m h1 h' v t ok.2 V₀ hA e4 ht { s with heap := H1, toks := T1 } β1 _ E g1 (Fm.ext x1 q1) fun β2 H2 T2 q2 x2 g2 => ?_)
      have := k' q1 x1 β2 H2 T2 q2 x2 g2
      cases t with
      | true => exact isTrue_and_nil this
      | false => exact this
    | false => cases e4; rw [e3] at ht; cases ht; exact k β1 H1 T1 q1 x1 g1
  | or2 l r p =>
    replace ok := (show (_ && _) = true from ok)
    simp only [Bool.and_eq_true] at ok
    obtain ⟨⟨a, h1⟩, e1, e2⟩ := bind_some hs
    obtain ⟨t1, e3, e4⟩ := bind_some e2
    refine isTrue_or (it l N sc env A₀ A m h h1 a t1 ok.1 V₀ hA e1 e3 s β _ E G Fm fun β1 H1 T1 q1 x1 g1 => ?_)
    cases t1 with
    | false =>
      refine isTrue_or (it r N sc env A₀ A m h1 h' v t ok.2 V₀ hA e4 ht { s with heap := H1, toks := T1 } β1 _ E g1 (Fm.ext x1 q1) fun β2 H2 T2 q2 x2 g2 => ?_)
      have := k' q1 x1 β2 H2 T2 q2 x2 g2
      cases t with
      | true => exact this
      | false => exact isTrue_or_nil this
    | true => cases e4; rw [e3] at ht; cases ht; exact k β1 H1 T1 q1 x1 g1
  | not x p =>
    replace ok := (show ME.ok N sc _ = true from ok)
    obtain ⟨⟨a, h1⟩, e1, e2⟩ := bind_some hs
    obtain ⟨t1, e3, e4⟩ := map_some e2
    cases e4
    cases ht
    exact isTrue_not (it x N sc env A₀ A m h _ a t1 ok V₀ hA e1 e3 s β _ E G Fm fun β1 H1 T1 q1 x1 g1 => k β1 H1 T1 q1 x1 g1)
  | ite t1 b o p =>
    replace ok := (show (_ && _) = true from ok)
    simp only [Bool.and_eq_true] at ok
    obtain ⟨⟨a, h1⟩, e1, e2⟩ := bind_some hs
    obtain ⟨c, e3, e4⟩ := bind_some e2
    refine isTrue_IfExp (it t1 N sc env A₀ A m h h1 a c ok.1.1 V₀ hA e1 e3 s β _ E G Fm fun β1 H1 T1 q1 x1 g1 => ?_)
    cases c with
    | true => exact it b N sc env A₀ A m h1 h' v t ok.1.2 V₀ hA e4 ht { s with heap := H1, toks := T1 } β1 _ E g1 (Fm.ext x1 q1) (k' q1 x1)
    | false => exact it o N sc env A₀ A m h1 h' v t ok.2 V₀ hA e4 ht { s with heap := H1, toks := T1 } β1 _ E g1 (Fm.ext x1 q1) (k' q1 x1)
  | dict sp ks vs p => cases sp <;> exact plain rfl
  | _ => exact plain rfl
end
end Mine

end

section
open PySem PySem.Calls PyProof.Rows PySem.W
namespace Mine

/-- how a statement leaves the heap: its own frame may turn -/
structure ExtF (A₀ : Addr) (β : List Addr) (H : Heap) (β' : List Addr) (H' : Heap) : Prop where
  pre : Pre β β'
  keep : ∀ b o, b ∉ β → b ≠ A₀ → H.get? b = some o → H'.get? b = some o ∧ b ∉ β'
theorem ExtF.refl (A₀ : Addr) (β : List Addr) (H : Heap) : ExtF A₀ β H β H := ⟨Pre.refl β, fun _ _ n _ e => ⟨e, n⟩⟩
theorem ExtF.trans {A₀ : Addr} {a b c : List Addr} {H₁ H₂ H₃ : Heap} (x : ExtF A₀ a H₁ b H₂) (y : ExtF A₀ b H₂ c H₃) : ExtF A₀ a H₁ c H₃ :=
  ⟨x.pre.trans y.pre, fun q o n m e => let ⟨e1, n1⟩ := x.keep q o n m e; y.keep q o n1 m e1⟩
theorem Ext.toF {A₀ : Addr} {a b : List Addr} {H₁ H₂ : Heap} (x : Ext a H₁ b H₂) : ExtF A₀ a H₁ b H₂ := ⟨x.pre, fun q o n _ e => x.keep q o n e⟩

noncomputable def FlR (L : Pl) (β : List Addr) (T : Nat) : Fl → Flow → Prop
  | .next, f => f = .next
  | .brk, f => f = .brk
  | .cont, f => f = .cont
  | .ret v, f => ∃ x, f = .ret x ∧ VR L β T v x

noncomputable def PstX (C : Cx) (N : Nm) (A₀ : Addr) (s : Shared) (β : List Addr) (f : Fl) (m' : M) (h' : Hp) (Q : Flow → Shared → Prop) : Prop :=
  ∀ x β' H' T', s.toks ≤ T' → ExtF A₀ β s.heap β' H' → Gd C.w C.L C.G β' T' h' H' → Frm C.L C.G N β' T' m' A₀ H' → FlR C.L β' T' f x → Q x { s with heap := H', toks := T' }

noncomputable def SEx (C : Cx) (S : Sm) (d : Nat) : Prop :=
  ∀ (b : MSs) (N : Nm) (sc : Scope) (env : Env) (A₀ : Addr) (A : Around) (m m' : M) (h h' : Hp) (f : Fl), b.ok N sc = true → EnvOk C N sc env A₀ → AOk A d → S.ex b m h = some (f, m', h') →
  ∀ (s : Shared) (β : List Addr) (Q : Flow → Shared → Prop) (E : Value → Shared → Prop), Gd C.w C.L C.G β s.toks h s.heap → Frm C.L C.G N β s.toks m A₀ s.heap → PstX C N A₀ s β f m' h' Q → wpAny (model C.prog C.w) A (execs (b.back N) env) Q E s

section
variable {C : Cx} {N : Nm} {sc : Scope} {env : Env} {A₀ : Addr} {A : Around} {d : Nat} {m m' : M} {h h' : Hp} {f : Fl} {s : Shared} {β : List Addr} {Q : Flow → Shared → Prop} {E : Value → Shared → Prop} {S : Sm}

theorem PstX.step {β' : List Addr} {H' : Heap} {T' : Nat} (P : PstX C N A₀ s β f m' h' Q) (ht : s.toks ≤ T') (x : ExtF A₀ β s.heap β' H') : PstX C N A₀ { s with heap := H', toks := T' } β' f m' h' Q :=
  fun y β'' H'' T'' ht' x' g F r => P y β'' H'' T'' (Nat.le_trans ht ht') (x.trans x') g F r

theorem noSwap {N : Nm} {t : Option Expr} {l : Nat} : ∀ e : ME, swapsWith (e.back N) t l env = pure false := by
  intro e
  cases e <;> first | rfl | (rename_i sp ks vs p; cases sp <;> rfl)

/-- a store into a name -/
theorem store_sound {i : Nat} {x : Value} {v : V} {Q : Unit → Shared → Prop} (V₀ : EnvOk C N sc env A₀) (ok : okSlot N sc i = true) (G : Gd C.w C.L C.G β s.toks h s.heap) (Fm : Frm C.L C.G N β s.toks m A₀ s.heap) (r : VR C.L β s.toks v x)
    (k : ∀ H' T', s.toks ≤ T' → ExtF A₀ β s.heap β H' → Gd C.w C.L C.G β T' h H' → Frm C.L C.G N β T' (m.set i (some v)) A₀ H' → Q () { s with heap := H', toks := T' }) :
    wpAny (model C.prog C.w) A (storeName env (N.slots.getD i default) x) Q E s := by
  simp only [okSlot, Bool.and_eq_true, decide_eq_true_eq, beq_iff_eq] at ok
  obtain ⟨⟨fm, hn, l⟩, out, new⟩ := Fm
  refine wpAny_storeName_local (by unfold Env.kindOf; rw [V₀.scp]; exact ok.2) (by rw [V₀.loc]; exact hn) (fun H' hn' hs' => ?_) (by rw [V₀.scp, V₀.kind]; rfl)
  rw [V₀.loc] at hn' hs'
  refine k H' (s.toks + 1) (Nat.le_succ _) ⟨Pre.refl _, fun b o n m e => ⟨(hs'.2 b m).trans e, n⟩⟩ ((G.toks (Nat.le_succ _)).but out new fun b o n e => (hs'.2 b n).trans e) ⟨⟨_, hn', ?_⟩, out, new⟩
  exact (l.mono (Pre.refl _) (Nat.le_succ _)).set (r.mono (Pre.refl _) (Nat.le_succ _)) V₀.nd ok.1

theorem ex_asg {i : Nat} {tp p : Pos} {e : ME} (ih : SEv C S d) (V₀ : EnvOk C N sc env A₀) (hA : AOk A d) (ok : MS.ok N sc (.asg i tp e p) = true) (hs : stepS C.X S (.asg i tp e p) m h = some (f, m', h')) (G : Gd C.w C.L C.G β s.toks h s.heap) (Fm : Frm C.L C.G N β s.toks m A₀ s.heap) (pst : PstX C N A₀ s β f m' h' Q) :
    GX C N env A Q E s (MS.asg i tp e p) := by
  replace ok := (show (_ && _) = true from ok)
  simp only [Bool.and_eq_true] at ok
  obtain ⟨⟨v, h1⟩, e1, e2⟩ := bind_some hs
  cases e2
  refine wpAny_Assign_Name ?_ (noSwap e)
  refine ih e N sc env A₀ A m h _ v ok.2 V₀ hA e1 s β _ E G Fm fun x β1 H1 T1 t1 x1 g1 r1 => ?_
  refine store_sound (s := { s with heap := H1, toks := T1 }) V₀ ok.1 g1 (Fm.ext x1 t1) r1 fun H2 T2 t2 x2 g2 f2 => ?_
  exact pst .next β1 H2 T2 (Nat.le_trans t1 t2) (x1.toF.trans x2) g2 f2 rfl

noncomputable def isStar : Expr → Bool
  | .Starred .. => true
  | _ => false
theorem notStar {N : Nm} : ∀ e : ME, isStar (e.back N) = false := by
  intro e
  cases e <;> first | rfl | (rename_i sp ks vs p; cases sp <;> rfl)
noncomputable def selN (env : Env) (l : Nat) : Expr → Option Str
  | .Name id pos => if env.kindOf id == some .local && pos.line == l then some id else none
  | _ => none

theorem swapped_form {x y : Str} {px py tp vp : Pos} {a b : Expr} :
    swappedStores [.Tuple [.Name x px, .Name y py] 0 tp] (.Tuple [a, b] 0 vp) env =
      (if (env.blockKind != .function) = true then pure none else if ([a, b].any isStar) = true then pure none
       else if (([Expr.Name x px, Expr.Name y py].filterMap (selN env px.line)).length != 2 || ([Expr.Name x px, Expr.Name y py].filterMap (selN env px.line)).eraseDups.length != ([Expr.Name x px, Expr.Name y py].filterMap (selN env px.line)).length) = true then pure none
       else if ([a, b].all (foldedForSure 8)) = true then pure none else if ([a, b].all (constantsAlone 8)) = true then (do
         unsupported "assign.tuple-of-constant-expressions:order-of-the-stores"
         pure (some ([Expr.Name x px, Expr.Name y py].filterMap (selN env px.line)))) else pure (some ([Expr.Name x px, Expr.Name y py].filterMap (selN env px.line)))) := by
  rfl

theorem swapped_is {x y : Str} {px py tp vp : Pos} {a b : ME} (hx : env.kindOf x = some .local) (hy : env.kindOf y = some .local) (hl : px.line = py.line) (hxy : (x == y) = false) (hk : env.blockKind = .function) :
    swappedStores [.Tuple [.Name x px, .Name y py] 0 tp] (.Tuple [a.back N, b.back N] 0 vp) env =
      (if (foldedForSure 8 (a.back N) && foldedForSure 8 (b.back N)) = true then pure none else if (constantsAlone 8 (a.back N) && constantsAlone 8 (b.back N)) = true then unsupported "assign.tuple-of-constant-expressions:order-of-the-stores" else pure (some [x, y])) := by
  rw [swapped_form]
  have hn : [Expr.Name x px, Expr.Name y py].filterMap (selN env px.line) = [x, y] := by
    have e1 : selN env px.line (.Name x px) = some x := by show (if (env.kindOf x == some .local && px.line == px.line) = true then some x else none) = _; rw [hx]; simp
    have e2 : selN env px.line (.Name y py) = some y := by show (if (env.kindOf y == some .local && py.line == px.line) = true then some y else none) = _; rw [hy, hl]; simp
    simp [e1, e2]
  have he : ([x, y].eraseDups).length = 2 := by
    have : (y == x) = false := by
      cases e : y == x with
      | false => rfl
      | true => rw [beq_iff_eq.mp e] at hxy; simp at hxy
    simp [List.eraseDups_cons, this]
  have hs : [a.back N, b.back N].any isStar = false := by simp [notStar]
  rw [hn, hs, he, hk]
  simp only [List.all_cons, List.all_nil, Bool.and_true]
  cases (foldedForSure 8 (a.back N) && foldedForSure 8 (b.back N)) <;> cases (constantsAlone 8 (a.back N) && constantsAlone 8 (b.back N)) <;> rfl
end
end Mine

end

section
open PySem PySem.Calls PyProof.Rows PySem.W
namespace Mine
section
variable {C : Cx} {N : Nm} {sc : Scope} {env : Env} {A₀ : Addr} {A : Around} {d : Nat} {m m' : M} {h h' : Hp} {f : Fl} {s : Shared} {β : List Addr} {Q : Flow → Shared → Prop} {E : Value → Shared → Prop} {S : Sm}

theorem extBut_keep {H H' H'' : Heap} (hk : ∀ b o, H.get? b = some o → H'.get? b = some o) (x : Heap.ExtBut H'.objs.size H' H'') : ∀ b o, H.get? b = some o → H''.get? b = some o := by
  intro b o e
  refine x b o (fun z => ?_) (hk b o e)
  have := Heap.lt_size (hk b o e)
  rw [z] at this
  exact absurd this (Nat.lt_irrefl _)

/-- two values stored into two names, in one order or the other -/
theorem store2 {i j : Nat} {x y : Value} {u v : V} {Q : Unit → Shared → Prop} (V₀ : EnvOk C N sc env A₀) (oki : okSlot N sc i = true) (okj : okSlot N sc j = true) (G : Gd C.w C.L C.G β s.toks h s.heap) (Fm : Frm C.L C.G N β s.toks m A₀ s.heap) (ru : VR C.L β s.toks u x) (rv : VR C.L β s.toks v y)
    (k : ∀ H' T', s.toks ≤ T' → ExtF A₀ β s.heap β H' → Gd C.w C.L C.G β T' h H' → Frm C.L C.G N β T' ((m.set i (some u)).set j (some v)) A₀ H' → Q () { s with heap := H', toks := T' }) :
    wpAny (model C.prog C.w) A (storeName env (N.slots.getD i default) x) (fun _ s' => wpAny (model C.prog C.w) A (storeName env (N.slots.getD j default) y) Q E s') E s := by
  refine store_sound V₀ oki G Fm ru fun H1 T1 t1 x1 g1 f1 => ?_
  refine store_sound (s := { s with heap := H1, toks := T1 }) V₀ okj g1 f1 (rv.mono x1.pre t1) fun H2 T2 t2 x2 g2 f2 => ?_
  exact k H2 T2 (Nat.le_trans t1 t2) (x1.trans x2) g2 f2

theorem ex_asg2 {i j : Nat} {tpi tpj tp vp p : Pos} {a b : ME} (ih : SEv C S d) (V₀ : EnvOk C N sc env A₀) (hA : AOk A d) (ok : MS.ok N sc (.asg2 i j tpi tpj tp a b vp p) = true) (hs : stepS C.X S (.asg2 i j tpi tpj tp a b vp p) m h = some (f, m', h')) (G : Gd C.w C.L C.G β s.toks h s.heap) (Fm : Frm C.L C.G N β s.toks m A₀ s.heap) (pst : PstX C N A₀ s β f m' h' Q) :
    GX C N env A Q E s (MS.asg2 i j tpi tpj tp a b vp p) := by
  replace ok := (show (_ && _) = true from ok)
  simp only [Bool.and_eq_true] at ok
  obtain ⟨⟨⟨⟨⟨⟨oki, okj⟩, hne⟩, hln⟩, oka⟩, okb⟩, hsw⟩ := ok
  have oki' := oki
  have okj' := okj
  simp only [okSlot, Bool.and_eq_true, decide_eq_true_eq, beq_iff_eq] at oki' okj'
  have hne' : (N.slots.getD i default == N.slots.getD j default) = false := by simpa using hne
  have hij : i ≠ j := by
    rintro rfl
    simp at hne'
  obtain ⟨⟨u, h1⟩, e1, e2⟩ := bind_some hs
  obtain ⟨⟨v, h2⟩, e3, e4⟩ := bind_some e2
  cases e4
  have hx : env.kindOf (N.slots.getD i default) = some .local := by unfold Env.kindOf; rw [V₀.scp]; exact oki'.2
  have hy : env.kindOf (N.slots.getD j default) = some .local := by unfold Env.kindOf; rw [V₀.scp]; exact okj'.2
  have hw := swapped_is (N := N) (px := tpi) (py := tpj) (tp := tp) (vp := vp) (a := a) (b := b) hx hy (by simpa using hln) hne' (by unfold Env.blockKind; rw [V₀.scp, V₀.kind]; rfl)
  have he : evs S (.cons a (.cons b .nil)) m h = some ([u, v], h') := by
    show ((S.ev a m h).bind fun (v, h) => (evs S (.cons b .nil) m h).bind fun (vs, h) => some (v :: vs, h)) = _
    rw [e1, Option.bind_some]
    show (((S.ev b m h1).bind fun (v, h) => (evs S .nil m h).bind fun (vs, h) => some (v :: vs, h)).bind _) = _
    rw [e3]; rfl
  have hval : ∀ (Q' : Value → Shared → Prop), (∀ t x y β1 H1 T1, s.toks ≤ T1 → Ext β s.heap β1 H1 → Gd C.w C.L C.G β1 T1 h' H1 → IsTup H1 t #[x, y] → VR C.L β1 T1 u x → VR C.L β1 T1 v y → Q' (.ref t) { s with heap := H1, toks := T1 }) →
      wpAny (model C.prog C.w) A (eval (.Tuple [a.back N, b.back N] 0 vp) env) Q' E s := by
    intro Q' k
    refine Tuple_ ?_
    rw [show [a.back N, b.back N] = (MEs.cons a (.cons b .nil)).back N from rfl, trees]
    refine args_sound ih V₀ hA _ h h' [u, v] (by simp [MEs.ok, oka, okb]) he s β _ E G Fm fun xs β1 H1 T1 t1 x1 g1 r1 => ?_
    obtain ⟨x, xs, rfl⟩ : ∃ x r, xs = x :: r := by cases xs with | nil => exact r1.elim | cons x r => exact ⟨x, r, rfl⟩
    obtain ⟨y, xs, rfl⟩ : ∃ x r, xs = x :: r := by cases xs with | nil => exact r1.2.elim | cons x r => exact ⟨x, r, rfl⟩
    obtain rfl : xs = [] := by cases xs with | nil => rfl | cons => exact r1.2.2.elim
    refine wpAny_newTuple ?_ (by show 2 ≤ sizeLine; rw [sizeLine_eq]; decide)
    refine k _ x y β1 _ T1 t1 (x1.trans (Ext.grow (get?_push_keep _))) (g1.grow (get?_push_keep _)) ⟨_, Heap.get?_push_size _ rfl, rfl, _, rfl⟩ r1.1 r1.2.1
  have fin : ∀ (t1 : Nat) (H1 : Heap) (β1 : List Addr) (m2 : M), m2 = (m.set i (some u)).set j (some v) → s.toks ≤ t1 → Ext β s.heap β1 H1 → ∀ H' T', t1 ≤ T' → ExtF A₀ β1 H1 β1 H' → Gd C.w C.L C.G β1 T' h' H' → Frm C.L C.G N β1 T' m2 A₀ H' → Q .next { s with heap := H', toks := T' } := by
    rintro t1 H1 β1 m2 rfl ht1 x1 H' T' t2 x2 g2 f2
    exact pst .next β1 H' T' (Nat.le_trans ht1 t2) (x1.toF.trans x2) g2 f2 rfl
  by_cases hf : (foldedForSure 8 (a.back N) && foldedForSure 8 (b.back N)) = true
  · rw [if_pos hf] at hw
    refine Assign_Tuple ?_ rfl hw
    refine hval _ fun t x y β1 H1 T1 t1 x1 g1 ht ru rv => ?_
    refine assign_Tuple_tuple hA.hd ht rfl rfl fun H2 q2 => ?_
    have hk := extBut_keep (fun b o e => e) q2
    have x2 := x1.trans (Ext.grow (β := β1) hk)
    have g2 := g1.grow hk
    show wpAny _ _ (assignInOrder [assign (.Name _ tpi) env, assign (.Name _ tpj) env] [x, y]) _ _ _
    refine assignInOrder_cons (assign_Name ?_)
    refine wpAny_mono (store2 (s := { s with heap := H2, toks := T1 }) (Q := fun _ s' => Q .next s') V₀ oki okj g2 (Fm.ext x2 t1) ru rv (fin T1 H2 β1 _ rfl t1 x2)) (fun _ _ q => assignInOrder_cons (assign_Name (wpAny_mono q (fun _ _ q => assignInOrder_nil q) fun _ _ q => q))) fun _ _ q => q
  · rw [if_neg hf] at hw
    have hc : ¬ (constantsAlone 8 (a.back N) && constantsAlone 8 (b.back N)) = true := by
      intro hc
      rw [hc] at hsw
      simp at hsw
      exact hf (by rw [Bool.and_eq_true]; exact hsw)
    rw [if_neg hc] at hw
    refine Assign_Tuple_swapped ?_ rfl hw
    refine hval _ fun t x y β1 H1 T1 t1 x1 g1 ht ru rv => ?_
    have hlen : ([N.slots.getD i default, N.slots.getD j default] : List Str).length = (#[x, y] : Array Value).size := by simp
    rw [hlen]
    refine unpackItems_tuple hA.hd ht fun H2 q2 => ?_
    have hk := extBut_keep (fun b o e => e) q2
    have x2 := x1.trans (Ext.grow (β := β1) hk)
    have g2 := g1.grow hk
    show wpAny _ _ (assignInOrder [fun z => bindName env (N.slots.getD j default) z, fun z => bindName env (N.slots.getD i default) z] [y, x]) _ _ _
    have k2 := store2 (s := { s with heap := H2, toks := T1 }) (Q := fun _ s' => Q .next s') (E := E) (A := A) V₀ okj oki g2 (Fm.ext x2 t1) rv ru (fin T1 H2 β1 _ (List.set_comm _ _ (Ne.symm hij)) t1 x2)
    refine assignInOrder_cons ?_
    show wpAny _ _ (bindName env (N.slots.getD j default) y) _ _ _
    refine bindName_ (wpAny_mono k2 (fun _ s' q => ?_) fun _ _ q => q)
    refine assignInOrder_cons ?_
    show wpAny _ _ (bindName env (N.slots.getD i default) x) _ _ _
    exact bindName_ (wpAny_mono q (fun _ _ q => assignInOrder_nil q) fun _ _ q => q)
end
end Mine

end

section
open PySem PySem.Calls PyProof.Rows PySem.W
namespace Mine
section
variable {C : Cx} {N : Nm} {sc : Scope} {env : Env} {A₀ : Addr} {A : Around} {d : Nat} {m m' : M} {h h' : Hp} {f : Fl} {s : Shared} {β : List Addr} {Q : Flow → Shared → Prop} {E : Value → Shared → Prop} {S : Sm}

theorem setL_inv {r : Nat} {k : Int} {v : V} (e : setL h r k v = some h') : ∃ vs j, h[r]? = some (.list vs) ∧ nidx k vs.length = some j ∧ h' = h.set r (.list (vs.set j v)) := by
  unfold setL at e
  split at e
  · rename_i vs hr
    obtain ⟨j, hj, rfl⟩ := map_some e
    exact ⟨vs, j, hr, hj, rfl⟩
  · cases e
theorem appL_inv {r : Nat} {v : V} (e : appL h r v = some h') : ∃ vs, h[r]? = some (.list vs) ∧ vs.length < LIM ∧ h' = h.set r (.list (vs ++ [v])) := by
  unfold appL at e
  split at e
  · rename_i vs hr
    split at e
    · cases e; exact ⟨vs, hr, by assumption, rfl⟩
    · cases e
  · cases e
theorem isL_inv {r : Nat} (e : isL h r = true) : ∃ vs, h[r]? = some (.list vs) := by
  unfold isL at e
  split at e
  · rename_i vs hr; exact ⟨vs, hr⟩
  · cases e
theorem nidx_neg {i : Int} {n j : Nat} (h : nidx i n = some j) : j < n ∧ ((0 ≤ i ∧ j = i.toNat) ∨ (i < 0 ∧ -(n : Int) ≤ i ∧ j = (i + n).toNat)) := by
  unfold nidx at h
  split at h
  · split at h
    · cases h; exact ⟨by assumption, .inl ⟨by assumption, rfl⟩⟩
    · cases h
  · split at h
    · cases h; exact ⟨by omega, .inr ⟨by omega, by omega, rfl⟩⟩
    · cases h
theorem plain_set {l : Addr} {items : Array Value} {j : Nat} {x : Value} {H : Heap} (hl : PlainL H l items) : PlainL (H.update l (Obj.mapSeq (·.setIfInBounds j x))) l (items.setIfInBounds j x) := by
  obtain ⟨o, n, ho, hc, hdn, hd⟩ := hl
  obtain ⟨n', hd'⟩ := Obj.data_mapSeq hd (·.setIfInBounds j x)
  refine ⟨_, n', Heap.get?_update_self _ ho (Obj.isFreed_of_seq hd'), (Obj.cls_mapSeq ..).trans hc, ?_, hd'⟩
  obtain ⟨c, d, dt, sl⟩ := o
  subst hd
  exact hdn
/-- a store at a place of a list of one's own -/
theorem setItem_list {l : Addr} {items : Array Value} {k : Int} {t : Tok} {x : Value} {j : Nat} {Q : Unit → Shared → Prop} (hl : PlainL s.heap l items) (hj : nidx k items.size = some j) (hs : items.size ≤ LIM)
    (hQ : ∀ h', PlainL h' l (items.setIfInBounds j x) → Heap.SameBut l s.heap h' → Q () { s with heap := h' }) :
    wpAny (model C.prog C.w) A (setItem (.ref l) (.int k t) x) Q E s := by
  have hI := hl.isList
  have hfin := plain_set (j := j) (x := x) hl
  obtain ⟨o, n, ho, hc, hdn, hd⟩ := id hl
  obtain ⟨hlt, hcase⟩ := nidx_neg hj
  have hx' : items[j]? = some items[j] := Array.getElem?_eq_getElem hlt
  unfold LIM at hs
  unfold setItem
  try with_reducible refine wpAny_holding ?_
  first | refine wpAny_bind (wpAny_pure ?_) | skip
  refine wpAny_bind (wpAny_sequenceKey hI.typeIs (by decide) ?_)
  refine wpAny_bind (wpAny_callSpecial?_slot (name := Str.ofString "__setitem__") hI.typeIs slot_list_setitem
    (wpAny_call_entry slot_list_setitem hI.typeIs entry_list_setitem ?_ (args_list_setitem _ _ _)))
  show wpAny _ _ (Builtin.List.listSubscript? (.int k t) >>= _) _ _ s
  have tail : ∀ {Q' : Fin → Shared → Prop} {f : Unit → Sem Fin}, (∀ h', PlainL h' l (items.setIfInBounds j x) → Heap.SameBut l s.heap h' → wpAny (model C.prog C.w) A.in1 (f ()) Q' E { s with heap := h' }) → True := fun _ => trivial
  rcases hcase with ⟨h0, rfl⟩ | ⟨h0, h1, rfl⟩
  · refine wpAny_bind (wpAny_listSubscript_int (fitsIndex_of h0 (by omega)) ?_)
    obtain ⟨j, rfl⟩ := Int.eq_ofNat_of_zero_le h0
    replace hx' : items[j]? = some items[j] := hx'
    show wpAny _ _ ((seqItemAt l j >>= fun r => pure (r.map (j, ·))) >>= _) _ _ s
    refine wpAny_bind (wpAny_bind (wpAny_seqItemAt ho hd (wpAny_pure ?_)))
    rw [hx']
    show wpAny _ _ (setSeqItemAt l j x >>= _) _ _ s
    refine wpAny_bind (wpAny_setSeqItemAt ho hd ?_)
    first
      | exact wpAny_bind (wpAny_pure (wpAny_pure ⟨.none, rfl, wpAny_pure (hQ _ hfin (Heap.SameBut.update ..))⟩))
      | exact wpAny_pure ⟨.none, rfl, wpAny_pure (hQ _ hfin (Heap.SameBut.update ..))⟩
  · refine wpAny_bind (wpAny_listSubscript_int (fitsIndex_neg h0 (by omega)) ?_)
    have hidx := seqIndex_neg h0 h1
    obtain ⟨j, rfl⟩ : ∃ j : Nat, k = Int.negSucc j := by
      cases k with
      | ofNat n => exact absurd h0 (Int.not_lt.mpr (Int.natCast_nonneg n))
      | negSucc n => exact ⟨n, rfl⟩
    show wpAny _ _ ((Builtin.List.listItems (.ref l) >>= fun xs => pure ((seqIndex? (Int.negSucc j) xs.size).bind fun i => xs[i]?.map (i, ·))) >>= _) _ _ s
    refine wpAny_bind (wpAny_bind ?_)
    show wpAny _ _ (seqItems? (.ref l) >>= _) _ _ s
    refine wpAny_bind (wpAny_seqItems ho hd (wpAny_pure (wpAny_pure ?_)))
    rw [hidx]
    simp only [Option.bind_some, hx', Option.map_some]
    show wpAny _ _ (setSeqItemAt l _ x >>= _) _ _ s
    refine wpAny_bind (wpAny_setSeqItemAt ho hd ?_)
    first
      | exact wpAny_bind (wpAny_pure (wpAny_pure ⟨.none, rfl, wpAny_pure (hQ _ hfin (Heap.SameBut.update ..))⟩))
      | exact wpAny_pure ⟨.none, rfl, wpAny_pure (hQ _ hfin (Heap.SameBut.update ..))⟩

theorem OR.isPlain {w : World} {L : Pl} {T : Nat} {vs : List V} {ob : Obj} {H : Heap} {a : Addr} (q : H.get? a = some ob) (r : ORd w L β T (.list vs) ob) : ∃ items, PlainL H a items ∧ All2 (VR L β T) vs items.toList ∧ vs.length ≤ LIM := by
  obtain ⟨⟨items, n, d, sl, rfl, al, le⟩, hd⟩ := r
  exact ⟨items, ⟨_, n, q, rfl, hd, rfl⟩, al, le⟩
theorem plain_ord {w : World} {L : Pl} {T : Nat} {vs : List V} {H : Heap} {a : Addr} {items : Array Value} (p : PlainL H a items) (al : All2 (VR L β T) vs items.toList) (le : vs.length ≤ LIM) : ∃ ob, H.get? a = some ob ∧ ORd w L β T (.list vs) ob := by
  obtain ⟨⟨c, d, dt, sl⟩, n, q, hc, hd, hdt⟩ := p
  simp only at hc hd hdt
  subst hc hd hdt
  exact ⟨_, q, ⟨_, _, _, _, rfl, al, le⟩, rfl⟩

theorem ex_sets {o i e : ME} {tp p : Pos} (ih : SEv C S d) (V₀ : EnvOk C N sc env A₀) (hA : AOk A d) (ok : MS.ok N sc (.sets o i tp e p) = true) (hs : stepS C.X S (.sets o i tp e p) m h = some (f, m', h')) (G : Gd C.w C.L C.G β s.toks h s.heap) (Fm : Frm C.L C.G N β s.toks m A₀ s.heap) (pst : PstX C N A₀ s β f m' h' Q) :
    GX C N env A Q E s (MS.sets o i tp e p) := by
  replace ok := (show (_ && _) = true from ok)
  simp only [Bool.and_eq_true] at ok
  obtain ⟨⟨oko, oki⟩, oke⟩ := ok
  obtain ⟨⟨v, h1⟩, e1, hs⟩ := bind_some hs
  obtain ⟨⟨a, h2⟩, e2, hs⟩ := bind_some hs
  obtain ⟨⟨k', h3⟩, e3, hs⟩ := bind_some hs
  obtain ⟨r, rfl⟩ : ∃ r, a = .ref r := by cases a <;> first | exact ⟨_, rfl⟩ | (exfalso; cases hs)
  obtain ⟨k, rfl⟩ : ∃ k, k' = .int k := by cases k' <;> first | exact ⟨_, rfl⟩ | (exfalso; cases hs)
  obtain ⟨h4, e4, hs⟩ := map_some hs
  cases hs
  obtain ⟨vs, j, hr, hj, rfl⟩ := setL_inv e4
  refine wpAny_Assign_Subscript ?_ (noSwap e)
  refine ih e N sc env A₀ A m h h1 v oke V₀ hA e1 s β _ E G Fm fun x β1 H1 T1 t1 x1 g1 r1 => ?_
  refine ih o N sc env A₀ A m h1 h2 (.ref r) oko V₀ hA e2 { s with heap := H1, toks := T1 } β1 _ E g1 (Fm.ext x1 t1) fun y β2 H2 T2 t2 x2 g2 r2 => ?_
  refine ih i N sc env A₀ A m h2 h3 (.int k) oki V₀ hA e3 { s with heap := H2, toks := T2 } β2 _ E g2 (Fm.ext (x1.trans x2) (Nat.le_trans t1 t2)) fun z β3 H3 T3 t3 x3 g3 r3 => ?_
  obtain ⟨ad, had, rfl⟩ := r2
  obtain ⟨t, rfl⟩ := r3
  have had' := x3.pre.get had
  obtain ⟨ob, hob, rr⟩ := g3.objs r _ ad hr had'
  obtain ⟨items, hp, al, le⟩ := OR.isPlain hob rr
  have hz : items.size = vs.length := by rw [← Array.length_toList, al.length]
  refine setItem_list (s := { s with heap := H3, toks := T3 }) hp (by rw [hz]; exact hj) (by omega) fun H' q1 q2 => ?_
  have al' : All2 (VR C.L β3 T3) (vs.set j v) (items.setIfInBounds j x).toList := by
    rw [Array.toList_setIfInBounds]
    exact All2.set al (r1.mono (x2.pre.trans x3.pre) (Nat.le_trans t2 t3))
  obtain ⟨ob', hob', rr'⟩ := plain_ord (w := C.w) q1 al' (by rw [List.length_set]; exact le)
  have g4 := g3.update had' (fun b o n e => (q2.2 b n).trans e) hob' rr'
  have x3' := (x1.trans x2).trans x3
  have tt := Nat.le_trans t1 (Nat.le_trans t2 t3)
  exact pst .next β3 H' _ tt (x3'.toF.trans g4.2.toF) g4.1 ((Fm.ext x3' tt).ext g4.2 (Nat.le_refl _)) rfl

theorem ex_app {o e : ME} {ap cp p : Pos} (ih : SEv C S d) (V₀ : EnvOk C N sc env A₀) (hA : AOk A d) (ok : MS.ok N sc (.app o e ap cp p) = true) (hs : stepS C.X S (.app o e ap cp p) m h = some (f, m', h')) (G : Gd C.w C.L C.G β s.toks h s.heap) (Fm : Frm C.L C.G N β s.toks m A₀ s.heap) (pst : PstX C N A₀ s β f m' h' Q) :
    GX C N env A Q E s (MS.app o e ap cp p) := by
  replace ok := (show (_ && _) = true from ok)
  simp only [Bool.and_eq_true] at ok
  obtain ⟨⟨⟨oko, oke⟩, okl⟩, okn⟩ := ok
  obtain ⟨⟨a, h1⟩, e1, hs⟩ := bind_some hs
  obtain ⟨r, rfl⟩ : ∃ r, a = .ref r := by cases a <;> first | exact ⟨_, rfl⟩ | (exfalso; cases hs)
  obtain ⟨hL, hs⟩ : isL h1 r = true ∧ ((S.ev e m h1).bind fun (v, h) => (appL h r v).map fun h => (Fl.next, m, h)) = some (f, m', h') := by
    by_cases hL : isL h1 r = true
    · exact ⟨hL, (if_pos hL).symm.trans hs⟩
    · exact absurd ((if_neg hL).symm.trans hs) (by simp)
  obtain ⟨⟨v, h2⟩, e2, hs⟩ := bind_some hs
  obtain ⟨h4, e4, hs⟩ := map_some hs
  cases hs
  obtain ⟨vs, hr, hlen, rfl⟩ := appL_inv e4
  obtain ⟨vs0, hr0⟩ := isL_inv hL
  refine wpAny_Expr_any ?_ (by unfold interactive; rw [V₀.scp, V₀.kind]; rfl)
  have ht : backTo cp (starEach [e.back N] env) = [(false, eval (e.back N) env)] := trees cp (.cons e .nil)
  refine wpAny_Call_append (base_plain (by cases o <;> first | rfl | (exact absurd okn Bool.false_ne_true))) (by rw [ht]; rfl) okl ht ?_
  refine ih o N sc env A₀ A m h h1 (.ref r) oko V₀ hA e1 s β _ E G Fm fun y β1 H1 T1 t1 x1 g1 r1 => ?_
  obtain ⟨ad, had, rfl⟩ := r1
  obtain ⟨ob0, hob0, rr0⟩ := g1.objs r _ ad hr0 had
  obtain ⟨items0, hp0, _⟩ := OR.isPlain hob0 rr0
  refine ⟨ad, items0, rfl, hp0, ?_⟩
  refine ih e N sc env A₀ A m h1 h2 v oke V₀ hA e2 { s with heap := H1, toks := T1 } β1 _ E g1 (Fm.ext x1 t1) fun y β2 H2 T2 t2 x2 g2 r2 => ?_
  have had' := x2.pre.get had
  obtain ⟨ob, hob, rr⟩ := g2.objs r _ ad hr had'
  obtain ⟨items, hp, al, le⟩ := OR.isPlain hob rr
  have hz : items.size = vs.length := by rw [← Array.length_toList, al.length]
  refine list_append_plainL (s := { s with heap := H2, toks := T2 }) hp (fun H' q1 q2 => ?_) (by rw [hz, sizeLine_eq]; unfold LIM at le; omega)
  have al' : All2 (VR C.L β2 T2) (vs ++ [v]) (items.push y).toList := by
    rw [Array.toList_push]
    exact All2.append al ⟨r2, trivial⟩
  obtain ⟨ob', hob', rr'⟩ := plain_ord (w := C.w) q1 al' (by rw [List.length_append]; exact hlen)
  have g4 := g2.update had' (fun b o n e => (q2.2 b n).trans e) hob' rr'
  have x3' := x1.trans x2
  have tt := Nat.le_trans t1 t2
  exact pst .next β2 H' _ tt (x3'.toF.trans g4.2.toF) g4.1 ((Fm.ext x3' tt).ext g4.2 (Nat.le_refl _)) rfl

/-- three values stored into three names -/
theorem store3 {i j l : Nat} {x y z : Value} {u v w : V} {Q : Unit → Shared → Prop} {pi pj pl : Pos} (V₀ : EnvOk C N sc env A₀) (oki : okSlot N sc i = true) (okj : okSlot N sc j = true) (okl : okSlot N sc l = true) (G : Gd C.w C.L C.G β s.toks h s.heap) (Fm : Frm C.L C.G N β s.toks m A₀ s.heap) (ru : VR C.L β s.toks u x) (rv : VR C.L β s.toks v y) (rw' : VR C.L β s.toks w z)
    (k : ∀ H' T', s.toks ≤ T' → ExtF A₀ β s.heap β H' → Gd C.w C.L C.G β T' h H' → Frm C.L C.G N β T' (((m.set i (some u)).set j (some v)).set l (some w)) A₀ H' → Q () { s with heap := H', toks := T' }) :
    wpAny (model C.prog C.w) A (assignInOrder [assign (.Name (N.slots.getD i default) pi) env, assign (.Name (N.slots.getD j default) pj) env, assign (.Name (N.slots.getD l default) pl) env] [x, y, z]) Q E s := by
  refine assignInOrder_cons (assign_Name ?_)
  refine store_sound V₀ oki G Fm ru fun H1 T1 t1 x1 g1 f1 => ?_
  refine assignInOrder_cons (assign_Name ?_)
  refine store_sound (s := { s with heap := H1, toks := T1 }) V₀ okj g1 f1 (rv.mono x1.pre t1) fun H2 T2 t2 x2 g2 f2 => ?_
  refine assignInOrder_cons (assign_Name ?_)
  refine store_sound (s := { s with heap := H2, toks := T2 }) V₀ okl g2 f2 (rw'.mono (x1.pre.trans x2.pre) (Nat.le_trans t1 t2)) fun H3 T3 t3 x3 g3 f3 => ?_
  exact assignInOrder_nil (k H3 T3 (Nat.le_trans t1 (Nat.le_trans t2 t3)) ((x1.trans x2).trans x3) g3 f3)

theorem ex_unp3 {i j l : Nat} {pi pj pl tp p : Pos} {e : ME} (ok0 : C.Ok) (ih : SEv C S d) (V₀ : EnvOk C N sc env A₀) (hA : AOk A d) (ok : MS.ok N sc (.unp3 i j l pi pj pl tp e p) = true) (hs : stepS C.X S (.unp3 i j l pi pj pl tp e p) m h = some (f, m', h')) (G : Gd C.w C.L C.G β s.toks h s.heap) (Fm : Frm C.L C.G N β s.toks m A₀ s.heap) (pst : PstX C N A₀ s β f m' h' Q) :
    GX C N env A Q E s (MS.unp3 i j l pi pj pl tp e p) := by
  replace ok := (show (_ && _) = true from ok)
  simp only [Bool.and_eq_true] at ok
  obtain ⟨⟨⟨⟨oki, okj⟩, okl⟩, oke⟩, okn⟩ := ok
  obtain ⟨⟨v, h1⟩, e1, hs⟩ := bind_some hs
  obtain ⟨a, b, c, ho, hs⟩ : ∃ a b c, obj C.X h1 v = some (.tup [a, b, c]) ∧ some (Fl.next, ((m.set i (some a)).set j (some b)).set l (some c), h1) = some (f, m', h') := by
    dsimp only at hs
    split at hs
    · rename_i a b c ho; exact ⟨a, b, c, ho, hs⟩
    · cases hs
  cases hs
  have hsw : swapsWithSole [.Tuple [.Name (N.slots.getD i default) pi, .Name (N.slots.getD j default) pj, .Name (N.slots.getD l default) pl] 0 tp] (e.back N) p.line env = pure false := by
    cases e <;> first | rfl | (exact absurd okn Bool.false_ne_true)
  have hst : swappedStores [.Tuple [.Name (N.slots.getD i default) pi, .Name (N.slots.getD j default) pj, .Name (N.slots.getD l default) pl] 0 tp] (e.back N) env = pure none := by
    cases e <;> first | rfl | (exact absurd okn Bool.false_ne_true)
  refine Assign_Tuple ?_ hsw hst
  refine ih e N sc env A₀ A m h _ v oke V₀ hA e1 s β _ E G Fm fun x β1 H1 T1 t1 x1 g1 r1 => ?_
  obtain ⟨ad, ob, rfl, q, z, _⟩ := obj_at ok0 g1 ho r1
  obtain ⟨items, n, dd, sl, rfl, al, le⟩ := z
  obtain ⟨x, y, z, hi, ra, rb, rc⟩ : ∃ x y z, items = #[x, y, z] ∧ VR C.L β1 T1 a x ∧ VR C.L β1 T1 b y ∧ VR C.L β1 T1 c z := by
    obtain ⟨l⟩ := items
    obtain ⟨x, r, e, hx, al⟩ := All2.cons_inv al
    obtain ⟨y, z, rfl, hy, hz⟩ := al.two
    exact ⟨x, y, z, congrArg List.toArray e, hx, hy, hz⟩
  subst hi
  refine assign_Tuple_tuple (s := { s with heap := H1, toks := T1 }) hA.hd ⟨_, q, rfl, _, rfl⟩ rfl rfl fun H2 q2 => ?_
  have hk := extBut_keep (fun b o e => e) q2
  have x2 := x1.trans (Ext.grow (β := β1) hk)
  have g2 := g1.grow hk
  exact store3 (s := { s with heap := H2, toks := T1 }) V₀ oki okj okl g2 (Fm.ext x2 t1) ra rb rc fun H' T' t' x' g' f' => pst .next β1 H' T' (Nat.le_trans t1 t') (x2.toF.trans x') g' f' rfl
end
end Mine

end

section
open PySem PySem.Calls PyProof.Rows PySem.W
namespace Mine
section
variable {C : Cx} {N : Nm} {sc : Scope} {env : Env} {A₀ : Addr} {A : Around} {d : Nat} {m m' : M} {h h' : Hp} {f : Fl} {s : Shared} {β : List Addr} {Q : Flow → Shared → Prop} {E : Value → Shared → Prop} {S : Sm}

theorem ex_ret {e : ME} {p : Pos} (ih : SEv C S d) (V₀ : EnvOk C N sc env A₀) (hA : AOk A d) (ok : MS.ok N sc (.ret e p) = true) (hs : stepS C.X S (.ret e p) m h = some (f, m', h')) (G : Gd C.w C.L C.G β s.toks h s.heap) (Fm : Frm C.L C.G N β s.toks m A₀ s.heap) (pst : PstX C N A₀ s β f m' h' Q) :
    GX C N env A Q E s (MS.ret e p) := by
  replace ok := (show ME.ok N sc _ = true from ok)
  obtain ⟨⟨v, h1⟩, e1, e2⟩ := bind_some hs
  cases e2
  refine wpAny_Return_some ?_
  refine ih e N sc env A₀ A m h _ v ok V₀ hA e1 s β _ E G Fm fun x β1 H1 T1 t1 x1 g1 r1 => ?_
  exact pst _ β1 H1 T1 t1 x1.toF g1 (Fm.ext x1 t1) ⟨x, rfl, r1⟩

theorem ex_ite {t : ME} {b o : MSs} {p : Pos} (ih : STr C S d) (ix : SEx C S d) (V₀ : EnvOk C N sc env A₀) (hA : AOk A d) (ok : MS.ok N sc (.ite t b o p) = true) (hs : stepS C.X S (.ite t b o p) m h = some (f, m', h')) (G : Gd C.w C.L C.G β s.toks h s.heap) (Fm : Frm C.L C.G N β s.toks m A₀ s.heap) (pst : PstX C N A₀ s β f m' h' Q) :
    GX C N env A Q E s (MS.ite t b o p) := by
  replace ok := (show (_ && _) = true from ok)
  simp only [Bool.and_eq_true] at ok
  obtain ⟨⟨v, h1⟩, e1, hs⟩ := bind_some hs
  obtain ⟨c, e2, hs⟩ := bind_some hs
  refine wpAny_If ?_
  refine ih t N sc env A₀ A m h h1 v c ok.1.1 V₀ hA e1 e2 s β _ E G Fm fun β1 H1 T1 t1 x1 g1 => ?_
  cases c with
  | true => exact ix b N sc env A₀ A m m' h1 h' f ok.1.2 V₀ hA hs { s with heap := H1, toks := T1 } β1 Q E g1 (Fm.ext x1 t1) (pst.step t1 x1.toF)
  | false => exact ix o N sc env A₀ A m m' h1 h' f ok.2 V₀ hA hs { s with heap := H1, toks := T1 } β1 Q E g1 (Fm.ext x1 t1) (pst.step t1 x1.toF)

/-- what holds at a while loop's head -/
noncomputable def WhI (C : Cx) (N : Nm) (A₀ : Addr) (S : Sm) (t : ME) (b : MSs) (s : Shared) (β : List Addr) (r : Fl × M × Hp) (n : Nat) (s1 : Shared) : Prop :=
  ∃ β1 H1 T1 m1 h1, s1 = { s with heap := H1, toks := T1 } ∧ s.toks ≤ T1 ∧ ExtF A₀ β s.heap β1 H1 ∧ Gd C.w C.L C.G β1 T1 h1 H1 ∧ Frm C.L C.G N β1 T1 m1 A₀ H1 ∧ mwhile C.X S t b n m1 h1 = some r
theorem ex_while {t : ME} {b : MSs} {p : Pos} (ih : STr C S d) (ix : SEx C S d) (V₀ : EnvOk C N sc env A₀) (hA : AOk A d) (ok : MS.ok N sc (.while t b p) = true) (hs : stepS C.X S (.while t b p) m h = some (f, m', h')) (G : Gd C.w C.L C.G β s.toks h s.heap) (Fm : Frm C.L C.G N β s.toks m A₀ s.heap) (pst : PstX C N A₀ s β f m' h' Q) :
    GX C N env A Q E s (MS.while t b p) := by
  replace ok := (show (_ && _) = true from ok)
  simp only [Bool.and_eq_true] at ok
  refine wpAny_While ?_
  refine codeAny_whileLoop (I := WhI C N A₀ S t b s β (f, m', h')) ?_ S.fu
    ⟨β, s.heap, s.toks, m, h, rfl, Nat.le_refl _, ExtF.refl _ _ _, G, Fm, hs⟩
  rintro n _ ⟨β1, H1, T1, m1, h1, rfl, t1, x1, g1, f1, e⟩
  cases n with
  | zero => cases e
  | succ n =>
    obtain ⟨⟨v, h2⟩, e1, e⟩ := bind_some e
    obtain ⟨c, e2, e⟩ := bind_some e
    refine ih t N sc env A₀ A m1 h1 h2 v c ok.1 V₀ hA e1 e2 { s with heap := H1, toks := T1 } β1 _ _ g1 f1 fun β2 H2 T2 t2 x2 g2 => ?_
    have f2 := f1.ext x2 t2
    cases c with
    | false =>
      cases e
      rw [if_neg (by decide)]
      refine wpAny_execs_nil ?_
      exact pst .next β2 H2 T2 (Nat.le_trans t1 t2) (x1.trans x2.toF) g2 f2 rfl
    | true =>
      rw [if_pos rfl]
      obtain ⟨⟨f3, m3, h3⟩, e3, e⟩ := bind_some e
      refine ix b N sc env A₀ A m1 m3 h2 h3 f3 ok.2 V₀ hA e3 { s with heap := H2, toks := T2 } β2 _ _ g2 f2 fun x β3 H3 T3 t3 x3 g3 fr3 r => ?_
      have tt := Nat.le_trans t1 (Nat.le_trans t2 t3)
      have xx := (x1.trans x2.toF).trans x3
      have again : mwhile C.X S t b n m3 h3 = some (f, m', h') → WhI C N A₀ S t b s β (f, m', h') n { s with heap := H3, toks := T3 } := fun e => ⟨β3, H3, T3, m3, h3, rfl, tt, xx, g3, fr3, e⟩
      cases f3 with
      | next =>
        cases r
        exact ⟨n, Nat.lt_succ_self _, again e⟩
      | cont =>
        cases r
        exact ⟨n, Nat.lt_succ_self _, again e⟩
      | brk =>
        cases r
        cases e
        exact pst .next β3 H3 T3 tt xx g3 fr3 rfl
      | ret v =>
        obtain ⟨y, rfl, r⟩ := r
        cases e
        exact pst _ β3 H3 T3 tt xx g3 fr3 ⟨y, rfl, r⟩
end
end Mine

end

section
open PySem PySem.Calls PyProof.Rows PySem.W
namespace Mine

/-- an iterator object that gives vs, one by one -/
structure Itr (C : Cx) (A : Around) (I : Addr) (St : Nat → Obj → Prop) (vs : List V) (chk : Hp → Bool) (β₀ : List Addr) : Prop where
  item : ∀ (i : Nat) (v : V) (s : Shared) (β : List Addr) (h : Hp) (o : Obj) (Q : Option Value → Shared → Prop) (E : Value → Shared → Prop), vs[i]? = some v → Pre β₀ β → Gd C.w C.L C.G β s.toks h s.heap → chk h = true → s.heap.get? I = some o → St i o →
    (∀ x H' T' o', s.toks ≤ T' → H'.get? I = some o' → St (i + 1) o' → (∀ b q, b ≠ I → s.heap.get? b = some q → H'.get? b = some q) → VR C.L β T' v x → Q (some x) { s with heap := H', toks := T' }) → wpAny (model C.prog C.w) A (pyNext (.ref I)) Q E s
  done : ∀ (s : Shared) (β : List Addr) (h : Hp) (o : Obj) (Q : Option Value → Shared → Prop) (E : Value → Shared → Prop), Pre β₀ β → Gd C.w C.L C.G β s.toks h s.heap → chk h = true → s.heap.get? I = some o → St vs.length o →
    (∀ H' T', s.toks ≤ T' → (∀ b q, b ≠ I → s.heap.get? b = some q → H'.get? b = some q) → Q none { s with heap := H', toks := T' }) → wpAny (model C.prog C.w) A (pyNext (.ref I)) Q E s

section
variable {C : Cx} {N : Nm} {sc : Scope} {env : Env} {A₀ : Addr} {A : Around} {d : Nat} {m m' : M} {h h' : Hp} {f : Fl} {s : Shared} {β : List Addr} {Q : Flow → Shared → Prop} {E : Value → Shared → Prop} {S : Sm}

theorem ExtF.butI {β₀ β1 : List Addr} {H₀ H1 H2 : Heap} {I : Addr} (x : ExtF A₀ β₀ H₀ β1 H1) (hI : H₀.get? I = none) (hk : ∀ b q, b ≠ I → H1.get? b = some q → H2.get? b = some q) : ExtF A₀ β₀ H₀ β1 H2 :=
  ⟨x.pre, fun b o n m e => let ⟨e1, n1⟩ := x.keep b o n m e; ⟨hk b o (fun z => by rw [z, hI] at e; cases e) e1, n1⟩⟩
theorem Frm.but {T : Nat} {H H' : Heap} {I : Addr} (Fm : Frm C.L C.G N β T m A₀ H) (hne : A₀ ≠ I) (hk : ∀ b q, b ≠ I → H.get? b = some q → H'.get? b = some q) : Frm C.L C.G N β T m A₀ H' := by
  obtain ⟨⟨g, ⟨o, es, ep, ho, r⟩, l⟩, out, new⟩ := Fm
  exact ⟨⟨g, ⟨o, es, ep, hk _ _ hne ho, r⟩, l⟩, out, new⟩
theorem Frm.toks {T T' : Nat} {H : Heap} (Fm : Frm C.L C.G N β T m A₀ H) (ht : T ≤ T') : Frm C.L C.G N β T' m A₀ H := Fm.ext (Ext.refl _ _) ht

/-- the iterators at hand -/
noncomputable def okIter (o : Obj) : Prop := ∃ vs, (o.cls = .type "list_iterator" ∨ o.cls = .type "range_iterator") ∧ o.data = .fields vs
/-- a for loop's target -/
structure Tgt (C : Cx) (N : Nm) (env : Env) (A₀ : Addr) (A : Around) (tgt : Expr) (st : V → M → Hp → Option M) : Prop where
  store : ∀ (v : V) (m m' : M) (h : Hp) (x : Value) (s : Shared) (β : List Addr) (Q : Unit → Shared → Prop) (E : Value → Shared → Prop), st v m h = some m' → Gd C.w C.L C.G β s.toks h s.heap → Frm C.L C.G N β s.toks m A₀ s.heap → VR C.L β s.toks v x →
    (∀ H' T', s.toks ≤ T' → ExtF A₀ β s.heap β H' → Gd C.w C.L C.G β T' h H' → Frm C.L C.G N β T' m' A₀ H' → Q () { s with heap := H', toks := T' }) → wpAny (model C.prog C.w) A (assign tgt env x) Q E s
  own : ∀ (I : Addr) (v : Value) (o : Obj) (s : Shared) (Q : Unit → Shared → Prop) (E : Value → Shared → Prop), s.heap.get? I = some o → okIter o → Q () s → wpAny (model C.prog C.w) A (letOwnedTupleGo tgt (.ref I) v) Q E s
/-- one turn of a for loop -/
noncomputable def Turn (C : Cx) (A : Around) (env : Env) (R : Result → Shared → Prop) (tgt : Expr) (itv : Value) (body : List Stmt) (I : Nat → Shared → Prop) (n : Nat) (s : Shared) : Prop :=
  wpAny (model C.prog C.w) A (pyNext itv) (fun r s₁ => match r with
      | none => wpAny (model C.prog C.w) A (execs [] env) (fun f s₃ => R (.ok f) s₃) (notedBy (model C.prog C.w) A env fun e s' => R (.error e) s') s₁
      | some v => wpAny (model C.prog C.w) A (letOwnedTupleGo tgt itv v) (fun _ s₁' =>
          wpAny (model C.prog C.w) A (assign tgt env v) (fun _ s₂ => wpAny (model C.prog C.w) A (execs body env) (fun f s₃ => match f with
            | .next | .cont => ∃ m, m < n ∧ I m s₃
            | .brk => R (.ok .next) s₃
            | .ret v => R (.ok (.ret v)) s₃) (notedBy (model C.prog C.w) A env fun e s' => R (.error e) s') s₂) (notedBy (model C.prog C.w) A env fun e s' => R (.error e) s') s₁') (notedBy (model C.prog C.w) A env fun e s' => R (.error e) s') s₁) (notedBy (model C.prog C.w) A env fun e s' => R (.error e) s') s
/-- what holds at a for loop's head -/
noncomputable def ForI (C : Cx) (N : Nm) (A₀ : Addr) (S : Sm) (I : Addr) (St : Nat → Obj → Prop) (vs : List V) (chk : Hp → Bool) (st : V → M → Hp → Option M) (b : MSs) (β₀ β₁ : List Addr) (H₀ : Heap) (T₀ : Nat) (r : Fl × M × Hp) (s : Shared) (n : Nat) (s1 : Shared) : Prop :=
  ∃ i β1 H1 T1 m1 h1 o1, n + i = vs.length ∧ s1 = { s with heap := H1, toks := T1 } ∧ T₀ ≤ T1 ∧ ExtF A₀ β₀ H₀ β1 H1 ∧ Pre β₁ β1 ∧ I ∉ β1 ∧ Gd C.w C.L C.G β1 T1 h1 H1 ∧ Frm C.L C.G N β1 T1 m1 A₀ H1 ∧ H1.get? I = some o1 ∧ St i o1 ∧ mfor S chk st b (vs.drop i) m1 h1 = some r

theorem for_loop {tgt : Expr} {st : V → M → Hp → Option M} {b : MSs} {vs : List V} {chk : Hp → Bool} {St : Nat → Obj → Prop} {I : Addr} {o : Obj} {β₀ β₁ : List Addr} {H₀ : Heap} {T₀ : Nat} {R : Result → Shared → Prop} (ix : SEx C S d) (V₀ : EnvOk C N sc env A₀) (hA : AOk A d) (ht : Tgt C N env A₀ A tgt st) (okb : b.ok N sc = true)
    (hit : Itr C A I St vs chk β₁) (hSt : ∀ i o, St i o → okIter o) (hpre : Pre β₁ β) (hI : I ∉ β) (hG : C.G.get? I = none) (hne : A₀ ≠ I) (hI0 : H₀.get? I = none) (x0 : ExtF A₀ β₀ H₀ β s.heap) (t0 : T₀ ≤ s.toks) (G : Gd C.w C.L C.G β s.toks h s.heap) (Fm : Frm C.L C.G N β s.toks m A₀ s.heap)
    (ho : s.heap.get? I = some o) (hst : St 0 o) (hs : mfor S chk st b vs m h = some (f, m', h')) (pst : PstX C N A₀ { s with heap := H₀, toks := T₀ } β₀ f m' h' (fun y s' => R (.ok y) s')) :
    codeAny (model C.prog C.w) A (.forLoop tgt (.ref I) (b.back N) [] env) R s := by
  refine codeAny_forLoop_any (I := ForI C N A₀ S I St vs chk st b β₀ β₁ H₀ T₀ (f, m', h') s) (fun n s1 q => show Turn C A env R tgt (.ref I) (b.back N) (ForI C N A₀ S I St vs chk st b β₀ β₁ H₀ T₀ (f, m', h') s) n s1 from ?_) vs.length
    ⟨0, β, s.heap, s.toks, m, h, o, rfl, rfl, t0, x0, hpre, hI, G, Fm, ho, hst, hs⟩
  obtain ⟨i, β1, H1, T1, m1, h1, o1, hn, rfl, t1, x1, p1, hI1, g1, f1, ho1, hst1, e⟩ := q
  rcases Nat.lt_or_ge i vs.length with hlt | hge
  · have hv : vs[i]? = some vs[i] := List.getElem?_eq_getElem hlt
    rw [List.drop_eq_getElem_cons hlt] at e
    unfold mfor at e
    split at e
    · rename_i hc
      obtain ⟨m3, e0, e⟩ := bind_some e
      refine hit.item i vs[i] { s with heap := H1, toks := T1 } β1 h1 o1 _ _ hv p1 g1 hc ho1 hst1 fun y H2 T2 o2 t2 ho2 hst2 hk r2 => ?_
      have g2 := (g1.toks t2).but hI1 hG hk
      have f2 := (f1.but hne hk).toks t2
      have x2 := x1.butI hI0 hk
      refine ht.own I y o2 _ _ _ ho2 (hSt _ _ hst2) ?_
      refine ht.store _ m1 m3 h1 y { s with heap := H2, toks := T2 } β1 _ _ e0 g2 f2 r2 fun H3 T3 t3 x3 g3 f3 => ?_
      have x3' : ExtF A₀ β₀ H₀ β1 H3 := x2.trans x3
      have ho3 : H3.get? I = some o2 := (x3.keep I o2 hI1 (Ne.symm hne) ho2).1
      obtain ⟨⟨fl, m4, h4⟩, e1, e⟩ := bind_some e
      refine ix b N sc env A₀ A _ m4 h1 h4 fl okb V₀ hA e1 { s with heap := H3, toks := T3 } β1 _ _ g3 f3 fun z β5 H5 T5 t5 x5 g5 f5 r5 => ?_
      have tt : T₀ ≤ T5 := Nat.le_trans t1 (Nat.le_trans t2 (Nat.le_trans t3 t5))
      have xx := x3'.trans x5
      have hI5 := x5.keep I o2 hI1 (Ne.symm hne) ho3
      have again : mfor S chk st b (vs.drop (i + 1)) m4 h4 = some (f, m', h') → ∃ m, m < n ∧ ForI C N A₀ S I St vs chk st b β₀ β₁ H₀ T₀ (f, m', h') s m { s with heap := H5, toks := T5 } :=
        fun e => ⟨n - 1, by omega, i + 1, β5, H5, T5, m4, h4, o2, by omega, rfl, tt, xx, p1.trans x5.pre, hI5.2, g5, f5, hI5.1, hst2, e⟩
      cases fl with
      | next => cases r5; exact again e
      | cont => cases r5; exact again e
      | brk => cases r5; cases e; exact pst .next β5 H5 T5 tt xx g5 f5 rfl
      | ret v => obtain ⟨y, rfl, r⟩ := r5; cases e; exact pst _ β5 H5 T5 tt xx g5 f5 ⟨y, rfl, r⟩
    · cases e
  · have hi : i = vs.length := by omega
    subst hi
    rw [List.drop_length] at e
    unfold mfor at e
    split at e
    · rename_i hc
      cases e
      refine hit.done { s with heap := H1, toks := T1 } β1 _ o1 _ _ p1 g1 hc ho1 hst1 fun H2 T2 t2 hk => ?_
      refine wpAny_execs_nil ?_
      exact pst .next β1 H2 T2 (Nat.le_trans t1 t2) (x1.butI hI0 hk) ((g1.toks t2).but hI1 hG hk) ((f1.but hne hk).toks t2) rfl
    · cases e

theorem tgt1 {x : Nat} {xp : Pos} (V₀ : EnvOk C N sc env A₀) (okx : okSlot N sc x = true) : Tgt C N env A₀ A (.Name (N.slots.getD x default) xp) (st1 x) where
  store := by
    intro v m m' h y s β Q E e G Fm r k
    cases e
    exact assign_Name (store_sound V₀ okx G Fm r k)
  own := by
    intro I v o s Q E _ _ k
    unfold letOwnedTupleGo
    exact wpAny_pure k
theorem tgt2 {x y : Nat} {xp yp tp : Pos} (ok0 : C.Ok) (V₀ : EnvOk C N sc env A₀) (hA : AOk A d) (okx : okSlot N sc x = true) (oky : okSlot N sc y = true) : Tgt C N env A₀ A (.Tuple [.Name (N.slots.getD x default) xp, .Name (N.slots.getD y default) yp] 0 tp) (st2 C.X x y) where
  store := by
    intro v m m' h w s β Q E e G Fm r k
    obtain ⟨a, b, ho, hs⟩ : ∃ a b, obj C.X h v = some (.tup [a, b]) ∧ some ((m.set x (some a)).set y (some b)) = some m' := by
      unfold st2 at e
      split at e
      · rename_i a b ho; exact ⟨a, b, ho, e⟩
      · cases e
    cases hs
    obtain ⟨ad, ob, rfl, q, z, _⟩ := obj_at ok0 G ho r
    obtain ⟨items, n, dd, sl, rfl, al, le⟩ := z
    obtain ⟨u, w, hi, ra, rb⟩ : ∃ u w, items = #[u, w] ∧ VR C.L β s.toks a u ∧ VR C.L β s.toks b w := by
      obtain ⟨l⟩ := items
      obtain ⟨u, w, e, hu, hw⟩ := All2.two al
      exact ⟨u, w, congrArg List.toArray e, hu, hw⟩
    subst hi
    refine assign_Tuple_tuple hA.hd ⟨_, q, rfl, _, rfl⟩ rfl rfl fun H2 q2 => ?_
    have hk := extBut_keep (fun b o e => e) q2
    show wpAny _ _ (assignInOrder [assign (.Name _ xp) env, assign (.Name _ yp) env] [u, w]) _ _ _
    refine assignInOrder_cons (assign_Name ?_)
    refine store_sound (s := { s with heap := H2 }) V₀ okx (G.grow hk) (Fm.ext (Ext.grow hk) (Nat.le_refl _)) ra fun H3 T3 t3 x3 g3 f3 => ?_
    refine assignInOrder_cons (assign_Name ?_)
    refine store_sound (s := { s with heap := H3, toks := T3 }) V₀ oky g3 f3 (rb.mono x3.pre t3) fun H4 T4 t4 x4 g4 f4 => ?_
    exact assignInOrder_nil (k H4 T4 (Nat.le_trans t3 t4) (((Ext.grow hk).toF.trans x3).trans x4) g4 f4)
  own := by
    intro I v o s Q E ho hi k
    obtain ⟨vs, hc, hd⟩ := hi
    unfold letOwnedTupleGo
    dsimp only
    cases v with
    | ref a =>
      dsimp only
      refine wpAny_bind (wpAny_load ho ?_)
      rw [hd]
      rcases hc with hc | hc <;> (rw [hc]; exact wpAny_pure k)
    | _ => exact wpAny_pure k
end
end Mine

end

section
open PySem PySem.Calls PyProof.Rows PySem.W
namespace Mine
section
variable {C : Cx} {N : Nm} {sc : Scope} {env : Env} {A₀ : Addr} {A : Around} {d : Nat} {m m' : M} {h h' : Hp} {f : Fl} {s : Shared} {β : List Addr} {Q : Flow → Shared → Prop} {E : Value → Shared → Prop} {S : Sm}

theorem All2.at {α β : Type} {R : α → β → Prop} {l : List α} {r : Array β} {i : Nat} {a : α} (h : All2 R l r.toList) (e : l[i]? = some a) : ∃ b, r[i]? = some b ∧ R a b := by
  obtain ⟨b, hb, hr⟩ := All2.get h e
  exact ⟨b, by simpa using hb, hr⟩

theorem itr_list {I l : Addr} {vs : List V} {chk : Hp → Bool} {β₀ : List Addr} (hA : A.handled = none)
    (hl : ∀ (T : Nat) (β : List Addr) (h : Hp) (H : Heap), Pre β₀ β → Gd C.w C.L C.G β T h H → chk h = true → ∃ items, H.IsList l items ∧ All2 (VR C.L β T) vs items.toList) :
    Itr C A I (fun i o => o.cls = .type "list_iterator" ∧ o.data = .fields #[.ref l, .int i 0]) vs chk β₀ where
  item := by
    intro i v s β h o Q E hv hp g hc ho hst k
    obtain ⟨items, q1, q2⟩ := hl _ _ _ _ hp g hc
    obtain ⟨x, hx, rx⟩ := All2.at q2 hv
    refine wpAny_pyNext_list_item (it := I) (l := l) (i := i) ⟨o, ho, hst⟩ q1 hx fun H' hit hs => ?_
    obtain ⟨o', ho', hst'⟩ := hit
    exact k x H' s.toks o' (Nat.le_refl _) ho' hst' (fun b q n e => (hs.2 b n).trans e) rx
  done := by
    intro s β h o Q E hp g hc ho hst k
    obtain ⟨items, q1, q2⟩ := hl _ _ _ _ hp g hc
    have hn : items[vs.length]? = none := Array.getElem?_eq_none (by simpa using Nat.le_of_eq q2.length.symm)
    refine wpAny_pyNext_list_end (it := I) (l := l) (i := vs.length) hA ⟨o, ho, hst⟩ q1 hn fun H' hs => ?_
    exact k H' s.toks (Nat.le_refl _) fun b q n e => hs b q n e

theorem itr_range {I : Addr} {n : Nat} {β₀ : List Addr} (hA : A.handled = none) :
    Itr C A I (fun i o => o = { cls := .type "range_iterator", dict := none, data := .fields #[rawInt (i : Int), rawInt ((n : Int) - i), rawInt 1], slots := #[] }) ((List.range n).map fun (i : Nat) => V.int (i : Int)) (fun _ => true) β₀ where
  item := by
    intro i v s β h o Q E hv hp g hc ho hst k
    subst hst
    rw [List.getElem?_map] at hv
    obtain ⟨j, hj, rfl⟩ := Option.map_eq_some_iff.mp hv
    have hlt : i < n := by
      rcases Nat.lt_or_ge i n with q | q
      · exact q
      · rw [List.getElem?_eq_none (by simpa using q)] at hj; cases hj
    rw [List.getElem?_range hlt] at hj
    cases hj
    refine wpAny_pyNext_range_item (it := I) (x := (i : Int)) (left := (n : Int) - i) (step := 1) ho (by omega) fun H' hit hs => ?_
    have e1 : (i : Int) + 1 = ((i + 1 : Nat) : Int) := by omega
    have e2 : (n : Int) - i - 1 = (n : Int) - ((i + 1 : Nat) : Int) := by omega
    rw [e1, e2] at hit
    exact k (.int i s.toks) H' (s.toks + 1) _ (Nat.le_succ _) hit rfl (fun b q n e => (hs.2 b n).trans e) ⟨_, rfl⟩
  done := by
    intro s β h o Q E hp g hc ho hst k
    subst hst
    refine wpAny_pyNext_range_end (it := I) hA ho (by simp) fun H' hs => ?_
    exact k H' s.toks (Nat.le_refl _) fun b q n e => hs b q n e

end
end Mine

end

section
open PySem PySem.Calls PyProof.Rows PySem.W
namespace Mine
section
variable {C : Cx} {β : List Addr}
/-- an entry list as the kit's pairs -/
theorem dictAt_of {T : Nat} {H : Heap} {a : Addr} {ents : Array DictEntry} {ep : Nat} {rep : Bool} {es : List (List Nat × V)} (hob : H.get? a = some ⟨.type "dict", none, .dict ents ep, #[]⟩) (al : All2 (ER C.w C.L β T rep) es ents.toList) (nd : (es.map (·.1)).Nodup) :
    ∃ kvs : List (Str × Value), H.DictAt (strKind C.prog C.w) a kvs ep ∧ kvs.length = es.length := by
  have key : ∀ {es : List (List Nat × V)} {l : List DictEntry}, All2 (ER C.w C.L β T rep) es l → ∃ kvs : List (Str × Value), Pairs (strKind C.prog C.w) l kvs ∧ kvs.map (·.1) = es.map fun e => (⟨e.1.toArray⟩ : Str) := by
    intro es
    induction es with
    | nil => intro l al; cases l with | nil => exact ⟨[], .nil, rfl⟩ | cons => exact al.elim
    | cons e es ih =>
      intro l al
      cases l with
      | nil => exact al.elim
      | cons q l =>
        obtain ⟨kvs, h1, h2⟩ := ih al.2
        obtain ⟨t, h3, _⟩ := al.1
        refine ⟨(⟨e.1.toArray⟩, q.val) :: kvs, .cons (by rw [h3]; exact beq_self_eq_true _) rfl h1, by simp [h2]⟩
  obtain ⟨kvs, h1, h2⟩ := key al
  refine ⟨kvs, ⟨_, ents, hob, ⟨rfl, rfl, rfl⟩, rfl, fun e he => keys_dict al e (Array.mem_toList_iff.mpr he), h1, ?_⟩, by simpa using congrArg List.length h2⟩
  rw [h2]
  have : (es.map fun e => (⟨e.1.toArray⟩ : Str)) = (es.map (·.1)).map fun k => (⟨k.toArray⟩ : Str) := by simp
  rw [this]
  refine List.Pairwise.map _ (fun a b hab e => hab ?_) nd
  have := congrArg (fun x : Str => x.cps.toList) e
  simpa using this

end
end Mine

end

section
open PySem PySem.Calls PyProof.Rows PySem.W
namespace Mine
section
variable {C : Cx} {N : Nm} {sc : Scope} {env : Env} {A₀ : Addr} {A : Around} {d : Nat} {m m' : M} {h h' : Hp} {f : Fl} {s : Shared} {β : List Addr} {E : Value → Shared → Prop} {S : Sm}

theorem notSet {N : Nm} {x : Value} : ∀ e : ME, foldedSetIterable (e.back N) env x = pure x := by
  intro e
  cases e <;> first | rfl | (rename_i sp ks vs p; cases sp <;> rfl)

theorem Gd.notIn {T T' : Nat} {H0 H1 : Heap} {β1 : List Addr} (x : Ext β H0 β1 H1) (g1 : Gd C.w C.L C.G β1 T h H1) : H0.get? H1.objs.size = none := by
  cases e : H0.get? H1.objs.size with
  | none => rfl
  | some o =>
    by_cases hm : H1.objs.size ∈ β
    · exact absurd (x.pre.mem hm) g1.fresh.1
    · exact absurd (Heap.lt_size (x.keep _ o hm e).1) (Nat.lt_irrefl _)

/-- what an iterator's maker hands on -/
noncomputable def IterK (C : Cx) (N : Nm) (A₀ : Addr) (A : Around) (s : Shared) (β : List Addr) (m : M) (h' : Hp) (vs : List V) (chk : Hp → Bool) (Q : Value → Shared → Prop) : Prop :=
  ∀ I o St β1 H1 T1, s.toks ≤ T1 → I ∉ β1 → C.G.get? I = none → A₀ ≠ I → s.heap.get? I = none → Ext β s.heap β1 H1 → Gd C.w C.L C.G β1 T1 h' H1 → Frm C.L C.G N β1 T1 m A₀ H1 → H1.get? I = some o → St 0 o → Itr C A I St vs chk β1 → (∀ i o, St i o → okIter o) → Q (.ref I) { s with heap := H1, toks := T1 }
theorem iter_fin {vs : List V} {chk : Hp → Bool} {Q : Value → Shared → Prop} (Fm : Frm C.L C.G N β s.toks m A₀ s.heap) (k : IterK C N A₀ A s β m h' vs chk Q) (T2 : Nat) (H2 : Heap) (β1 : List Addr) (t2 : s.toks ≤ T2) (x2 : Ext β s.heap β1 H2) (g2 : Gd C.w C.L C.G β1 T2 h' H2) (ob : Obj) (St : Nat → Obj → Prop) (hf : ob.isFreed = false) (h0 : St 0 ob) (hit : Itr C A H2.objs.size St vs chk β1) (hSt : ∀ i o, St i o → okIter o) :
    Q (.ref H2.objs.size) { s with heap := H2.push ob, toks := T2 } := by
  have f2 := Fm.ext x2 t2
  have x3 := x2.trans (Ext.grow (β := β1) (get?_push_keep ob))
  refine k _ ob St β1 _ T2 t2 g2.fresh.1 g2.fresh.2 ?_ (Gd.notIn (T' := 0) x2 g2) x3 (g2.grow (get?_push_keep ob)) (Fm.ext x3 t2) (Heap.get?_push_size _ hf) h0 hit hSt
  rintro rfl
  obtain ⟨_, ⟨o, _, _, ho, _⟩, _⟩ := f2.ns
  exact absurd (Heap.lt_size ho) (Nat.lt_irrefl _)
noncomputable def iterV (h : Hp) : V → Option (List V × (Hp → Bool) × Hp)
  | .ref k => (match h[k]? with
    | some (.list vs) => some (vs, fun h' => decide (h'[k]? = some (.list vs)), h)
    | _ => .none)
  | _ => .none
theorem iter_plain {it : ME} {vs : List V} {chk : Hp → Bool} {Q : Value → Shared → Prop} (ok0 : C.Ok) (ih : SEv C S d) (V₀ : EnvOk C N sc env A₀) (hA : AOk A d) (ok : it.ok N sc = true) (hs : (S.ev it m h).bind (fun (a, h) => iterV h a) = some (vs, chk, h')) (G : Gd C.w C.L C.G β s.toks h s.heap) (Fm : Frm C.L C.G N β s.toks m A₀ s.heap)
    (k : IterK C N A₀ A s β m h' vs chk Q) : wpAny (model C.prog C.w) A (eval (it.back N) env) (fun x s₁ => wpAny (model C.prog C.w) A (pyIter x) Q E s₁) E s := by
  obtain ⟨⟨a, h1⟩, e1, hs⟩ := bind_some hs
  refine ih it N sc env A₀ A m h h1 a ok V₀ hA e1 s β _ E G Fm fun x β1 H1 T1 t1 x1 g1 r1 => ?_
  obtain ⟨kk, vs', rfl, hx, hs⟩ : ∃ kk vs', a = .ref kk ∧ h1[kk]? = some (.list vs') ∧ some (vs', (fun (h' : Hp) => decide (h'[kk]? = some (.list vs'))), h1) = some (vs, chk, h') := by
    obtain ⟨kk, rfl⟩ : ∃ r, a = .ref r := by cases a <;> first | exact ⟨_, rfl⟩ | (exfalso; cases hs)
    replace hs := (show (match h1[kk]? with
      | some (.list vs) => some (vs, (fun (h' : Hp) => decide (h'[kk]? = some (.list vs))), h1)
      | _ => .none) = some (vs, chk, h') from hs)
    split at hs
    · rename_i vs' hx; exact ⟨kk, vs', rfl, hx, hs⟩
    · cases hs
  cases hs
  obtain ⟨a, ha, rfl⟩ := r1
  obtain ⟨ob, hob, r⟩ := g1.objs kk _ a hx ha
  obtain ⟨items, q1, q2, _⟩ := OR.isList hob r.1
  refine wpAny_pyIter_list q1 (iter_fin Fm k T1 H1 β1 t1 x1 g1 _ _ rfl ⟨rfl, rfl⟩ (itr_list (l := a) hA.hd fun T β' h'' H hp g hc => ?_) fun i o hh => ⟨_, .inl hh.1, hh.2⟩)
  obtain ⟨ob, hob, r⟩ := g.objs kk _ a (of_decide_eq_true hc) (hp.get ha)
  obtain ⟨items, q1, q2, _⟩ := OR.isList hob r.1
  exact ⟨items, q1, q2⟩

theorem iter_sound {it : ME} {vs : List V} {chk : Hp → Bool} {Q : Value → Shared → Prop} (ok0 : C.Ok) (ih : SEv C S d) (V₀ : EnvOk C N sc env A₀) (hA : AOk A d) (ok : okIt1 N sc it = true) (hs : iter1 C.X S it m h = some (vs, chk, h')) (G : Gd C.w C.L C.G β s.toks h s.heap) (Fm : Frm C.L C.G N β s.toks m A₀ s.heap)
    (k : IterK C N A₀ A s β m h' vs chk Q) :
    wpAny (model C.prog C.w) A (eval (it.back N) env) (fun x s₁ => wpAny (model C.prog C.w) A (pyIter x) Q E s₁) E s := by
  unfold iter1 at hs
  split at hs
  · rename_i np e p
    simp only [okIt1, Bool.and_eq_true] at ok
    obtain ⟨⟨a, h1⟩, e1, hs⟩ := bind_some hs
    dsimp only at hs
    split at hs
    · rename_i n
      split at hs
      · rename_i hn
        cases hs
        show wpAny _ _ (eval (.Call (.Name (Str.ofString Bi.range.name) np) ((MEs.cons e .nil).back N) [] p) env) _ E s
        refine Call_ (bname ok0 V₀ ok.1 G ?_)
        rw [trees]
        refine PyProof.Rows.callWith_type rfl (evalArgs_plain (spliced_cons ?_))
        refine ih e N sc env A₀ A m h _ (.int n) ok.2 V₀ hA e1 s β _ E G Fm fun x β1 H1 T1 t1 x1 g1 r1 => ?_
        obtain ⟨t, rfl⟩ := r1
        refine spliced_nil ?_
        refine call_range_1 ?_
        refine wpAny_pyIter_range (IsRange.new ..) (small_one (by decide) (by decide) (by unfold LIM at hn; omega) (by unfold LIM at hn; omega)) ?_
        have hsz : Builtin.Range.rangeSize 0 n 1 = (n.toNat : Int) := by rw [rangeSize_one]; split <;> omega
        rw [hsz]
        have hk := get?_push_keep (H := H1) { cls := .type "range", data := .fields #[.int 0 T1, .int n t, .int 1 (T1 + 1)] }
        exact iter_fin Fm k (T1 + 1 + 1) _ β1 (Nat.le_trans t1 (Nat.le_trans (Nat.le_succ _) (Nat.le_succ _))) (x1.trans (Ext.grow hk)) ((g1.toks (Nat.le_trans (Nat.le_succ _) (Nat.le_succ _))).grow hk) _ _ rfl (by simp [rawInt]) (itr_range (n := n.toNat) hA.hd) fun i o hh => by subst hh; exact ⟨_, .inr rfl, rfl⟩
      · cases hs
    · cases hs
  · rename_i hne
    refine iter_plain ok0 ih V₀ hA ?_ hs G Fm k
    unfold okIt1 at ok
    split at ok
    · exact absurd rfl (hne _ _ _)
    · exact ok

theorem ex_for1 {x : Nat} {xp p : Pos} {it : ME} {b : MSs} {Q : Flow → Shared → Prop} (ok0 : C.Ok) (ih : SEv C S d) (ix : SEx C S d) (V₀ : EnvOk C N sc env A₀) (hA : AOk A d) (ok : MS.ok N sc (.for1 x xp it b p) = true) (hs : stepS C.X S (.for1 x xp it b p) m h = some (f, m', h')) (G : Gd C.w C.L C.G β s.toks h s.heap) (Fm : Frm C.L C.G N β s.toks m A₀ s.heap) (pst : PstX C N A₀ s β f m' h' Q) :
    GX C N env A Q E s (MS.for1 x xp it b p) := by
  replace ok := (show (_ && _) = true from ok)
  simp only [Bool.and_eq_true] at ok
  obtain ⟨⟨vs, chk, h1⟩, e1, hs⟩ := bind_some hs
  refine wpAny_For ?_ (fun _ => notSet it)
  refine iter_sound ok0 ih V₀ hA ok.1.2 e1 G Fm fun I o St β1 H1 T1 t1 hI hG hne hI0 x1 g1 f1 ho hst hit hSt => ?_
  exact for_loop (s := { s with heap := H1, toks := T1 }) (T₀ := s.toks) (β₀ := β) (H₀ := s.heap) ix V₀ hA (tgt1 V₀ ok.1.1) ok.2 hit hSt (Pre.refl _) hI hG hne hI0 x1.toF t1 g1 f1 ho hst hs pst
theorem ex_for2 {x y : Nat} {xp yp tp p : Pos} {it : ME} {b : MSs} {Q : Flow → Shared → Prop} (ok0 : C.Ok) (ih : SEv C S d) (ix : SEx C S d) (V₀ : EnvOk C N sc env A₀) (hA : AOk A d) (ok : MS.ok N sc (.for2 x y xp yp tp it b p) = true) (hs : stepS C.X S (.for2 x y xp yp tp it b p) m h = some (f, m', h')) (G : Gd C.w C.L C.G β s.toks h s.heap) (Fm : Frm C.L C.G N β s.toks m A₀ s.heap) (pst : PstX C N A₀ s β f m' h' Q) :
    GX C N env A Q E s (MS.for2 x y xp yp tp it b p) := by
  replace ok := (show (_ && _) = true from ok)
  simp only [Bool.and_eq_true] at ok
  obtain ⟨⟨vs, chk, h1⟩, e1, hs⟩ := bind_some hs
  refine wpAny_For ?_ (fun _ => notSet it)
  refine iter_sound ok0 ih V₀ hA ok.1.2 e1 G Fm fun I o St β1 H1 T1 t1 hI hG hne hI0 x1 g1 f1 ho hst hit hSt => ?_
  exact for_loop (s := { s with heap := H1, toks := T1 }) (T₀ := s.toks) (β₀ := β) (H₀ := s.heap) ix V₀ hA (tgt2 ok0 V₀ hA ok.1.1.1 ok.1.1.2) ok.2 hit hSt (Pre.refl _) hI hG hne hI0 x1.toF t1 g1 f1 ho hst hs pst
end
end Mine

end

section
open PySem PySem.Calls PyProof.Rows PySem.W
namespace Mine
section
variable {prog : Program} {w : World} {A : Around} {s : Shared} {E : Value → Shared → Prop}

/-- the pair that a dict's items give next is the entry's own key and value -/
theorem next_pair {I a : Addr} {i ep : Nat} {ents : Array DictEntry} {e : DictEntry} {ok ov : Value} {Q : Option Value → Shared → Prop} (hit : IsItemIter s.heap I a i ents.size ep ok ov) (hob : s.heap.get? a = some ⟨.type "dict", none, .dict ents ep, #[]⟩) (hx : ents[i]? = some e)
    (k : ∀ H', IsItemIterOut H' I a (i + 1) ents.size ep e.key e.val s.heap.objs.size → H'.get? s.heap.objs.size = some { cls := .type "tuple", data := .seq #[e.key, e.val] } →
      (∀ b o, b ≠ I → s.heap.get? b = some o → H'.get? b = some o) → Q (some (.ref s.heap.objs.size)) { s with heap := H' }) : wpAny (model prog w) A (pyNext (.ref I)) Q E s := by
  have ty : s.TypeIs (.ref I) "dict_itemiterator" := ⟨_, hit, rfl⟩
  have name : ∀ {R : String → Shared → Prop}, R "dict_itemiterator" s → ∀ {A' : Around} {E' : Value → Shared → Prop}, wpAny (model prog w) A' (typeNameOfWhole (.ref I)) R E' s := fun r => wpAny_typeNameOfWhole_itemiter ty r
  unfold pyNext
  refine wpAny_bind (wpAny_attempt (wpAny_callSpecial?_slot (name := Str.ofString "__next__") ty F.slot_dict_itemiterator_next
    (wpAny_call_entry F.slot_dict_itemiterator_next ty F.entry_dict_itemiterator_next ?_ (F.args_dict_itemiterator_next_1 _))))
  refine wpAny_bind (wpAny_pure (wpAny_bind (wpAny_bind (wpAny_bind (name (wpAny_pure ?_))))))
  refine wpAny_bind (wpAny_fieldsOf hit rfl ?_)
  simp only [show Builtin.Dict_items.ownsTuple "dict_itemiterator" = true from by decide, if_true]
  show wpAny _ _ (if (Value.ref a == Value.none) = true then _ else _) _ _ s
  rw [if_neg (show ¬ ((Value.ref a == Value.none) = true) from Bool.false_ne_true)]
  refine wpAny_bind (wpAny_pure (wpAny_bind (wpAny_dictEntries hob rfl ?_)))
  rw [if_neg (by simp)]
  refine wpAny_bind (wpAny_pure (wpAny_bind (wpAny_dictEpoch hob rfl ?_)))
  rw [if_neg (by simp)]
  refine wpAny_pure ?_
  simp only [show ¬ ((i : Int) < 0) from by omega, if_false, Int.toNat_natCast, hx]
  refine wpAny_bind (wpAny_bind (name (wpAny_pure ?_)))
  refine wpAny_bind (wpAny_isOneOf_itemiter ty ?_)
  show wpAny _ _ (setField (.ref I) 3 (rawInt ((i : Int) + 1)) >>= _) _ _ s
  refine wpAny_bind (wpAny_setField_rec hit (by simp) fun H1 q1 s1 => ?_)
  have e1 : (i : Int) + 1 = ((i + 1 : Nat) : Int) := by omega
  have i1 : IsItemIter H1 I a (i + 1) ents.size ep ok ov := by unfold IsItemIter; rw [← e1]; simpa [rawInt] using q1
  have z1 : H1.objs.size = s.heap.objs.size := s1.1
  have t1 : Shared.TypeIs { s with heap := H1 } (.ref I) "dict_itemiterator" := ⟨_, i1, rfl⟩
  refine wpAny_bind (wpAny_holding (wpAny_bind (wpAny_isOneOf_itemiter t1 (wpAny_bind (wpAny_isOneOf_itemiter t1 ?_)))))
  show wpAny _ _ (Builtin.Dict_items.pairFromOwner (.ref I) 6 e.key e.val) _ _ { s with heap := H1 }
  unfold Builtin.Dict_items.pairFromOwner
  refine wpAny_bind (wpAny_newTuple ?_)
  have i2 : IsItemIter (H1.push { cls := .type "tuple", data := .seq #[e.key, e.val] }) I a (i + 1) ents.size ep ok ov := Heap.get?_push_of_some _ i1
  have p2 : (H1.push { cls := .type "tuple", data := .seq #[e.key, e.val] }).get? s.heap.objs.size = some { cls := .type "tuple", data := .seq #[e.key, e.val] } := by rw [← z1]; exact Heap.get?_push_size _ rfl
  have k2 : ∀ b o, b ≠ I → s.heap.get? b = some o → (H1.push { cls := .type "tuple", data := .seq #[e.key, e.val] }).get? b = some o := fun b o n x => Heap.get?_push_of_some _ ((s1.2 b n).trans x)
  have lt : s.heap.objs.size ≠ I := Nat.ne_of_gt (Heap.lt_size hit)
  show wpAny _ _ (Builtin.Dict_items.ownedTupleIsFree (.ref I) >>= _) _ _ { s with heap := H1.push { cls := .type "tuple", data := .seq #[e.key, e.val] } }
  rw [show ({ s with heap := H1 } : Shared).heap.objs.size = s.heap.objs.size from z1]
  generalize H1.push { cls := .type "tuple", data := .seq #[e.key, e.val] } = H2 at i2 p2 k2 ⊢
  unfold Builtin.Dict_items.ownedTupleIsFree
  refine wpAny_bind (wpAny_bind (wpAny_field (s := { s with heap := H2 }) i2 rfl (x := .none) rfl (wpAny_pure ?_)))
  simp only [if_true]
  refine wpAny_bind (wpAny_field (s := { s with heap := H2 }) i2 rfl (x := ok) rfl (wpAny_bind (wpAny_field (s := { s with heap := H2 }) i2 rfl (x := ov) rfl ?_)))
  refine wpAny_bind (wpAny_setField_rec (s := { s with heap := H2 }) i2 (by simp) fun H3 i3 s3 => wpAny_bind (wpAny_setField_rec (s := { s with heap := H3 }) i3 (by simp) fun H4 i4 s4 => wpAny_bind (wpAny_setField_rec (s := { s with heap := H4 }) i4 (by simp) fun H5 i5 s5 =>
    wpAny_bind (wpAny_setField_rec (s := { s with heap := H5 }) i5 (by simp) fun H6 i6 s6 => ?_))))
  have same : ∀ b, b ≠ I → H6.get? b = H2.get? b := fun b n => (s6.2 b n).trans ((s5.2 b n).trans ((s4.2 b n).trans (s3.2 b n)))
  refine wpAny_bind (wpAny_letGo (wpAny_pure (wpAny_pure ⟨_, rfl, wpAny_pure (k H6 ?_ ((same _ lt).trans p2) fun b o n x => (same b n).trans (k2 b o n x))⟩)))
  exact i6
end
end Mine

end

section
open PySem PySem.Calls PyProof.Rows PySem.W
namespace Mine
section
variable {C : Cx} {N : Nm} {sc : Scope} {env : Env} {A₀ : Addr} {A : Around} {d : Nat} {m m' : M} {h h' : Hp} {f : Fl} {s : Shared} {β : List Addr} {E : Value → Shared → Prop} {S : Sm}

theorem slot_ne {l : List Str} {i j : Nat} (nd : l.Nodup) (hi : i < l.length) (hj : j < l.length) (hij : i ≠ j) : l.getD i default ≠ l.getD j default := by
  rw [List.getD_eq_getElem?_getD, List.getD_eq_getElem?_getD, List.getElem?_eq_getElem hi, List.getElem?_eq_getElem hj]
  intro e
  exact hij ((List.getElem?_inj hi nd).mp (by rw [List.getElem?_eq_getElem hi, List.getElem?_eq_getElem hj]; exact congrArg some e))

/-- the frame with its names as a map -/
structure FrmF (L : Pl) (G : Heap) (N : Nm) (β : List Addr) (T : Nat) (m : M) (A : Addr) (H : Heap) (fm : Str → Option Value) : Prop where
  ns : H.Ns A fm
  lr : LR L β T N.slots m fm
  out : A ∉ β
  new : G.get? A = none

theorem storeF {i : Nat} {x : Value} {v : V} {fm : Str → Option Value} {Q : Unit → Shared → Prop} (V₀ : EnvOk C N sc env A₀) (ok : okSlot N sc i = true) (G : Gd C.w C.L C.G β s.toks h s.heap) (Fm : FrmF C.L C.G N β s.toks m A₀ s.heap fm) (r : VR C.L β s.toks v x)
    (k : ∀ H', ExtF A₀ β s.heap β H' → Gd C.w C.L C.G β (s.toks + 1) h H' → FrmF C.L C.G N β (s.toks + 1) (m.set i (some v)) A₀ H' (fun z => if z = N.slots.getD i default then some x else fm z) → (∀ b q, b ≠ A₀ → s.heap.get? b = some q → H'.get? b = some q) → Q () { s with heap := H', toks := s.toks + 1 }) :
    wpAny (model C.prog C.w) A (storeName env (N.slots.getD i default) x) Q E s := by
  simp only [okSlot, Bool.and_eq_true, decide_eq_true_eq, beq_iff_eq] at ok
  obtain ⟨hn, l, out, new⟩ := Fm
  refine wpAny_storeName_local (by unfold Env.kindOf; rw [V₀.scp]; exact ok.2) (by rw [V₀.loc]; exact hn) (fun H' hn' hs' => ?_) (by rw [V₀.scp, V₀.kind]; rfl)
  rw [V₀.loc] at hn' hs'
  refine k H' ⟨Pre.refl _, fun b o n m e => ⟨(hs'.2 b m).trans e, n⟩⟩ ((G.toks (Nat.le_succ _)).but out new fun b o n e => (hs'.2 b n).trans e) ⟨hn', ?_, out, new⟩ fun b q n e => (hs'.2 b n).trans e
  exact (l.mono (Pre.refl _) (Nat.le_succ _)).set (r.mono (Pre.refl _) (Nat.le_succ _)) V₀.nd ok.1

theorem loadF {i : Nat} {p : Pos} {y : Value} {fm : Str → Option Value} {Q : Value → Shared → Prop} (V₀ : EnvOk C N sc env A₀) (ok : okSlot N sc i = true) (hd : (N.slots.getD i default == ("__debug__" : Str)) = false) (hn : s.heap.Ns A₀ fm) (hy : fm (N.slots.getD i default) = some y) (k : Q y s) :
    wpAny (model C.prog C.w) A (eval (.Name (N.slots.getD i default) p) env) Q E s := by
  simp only [okSlot, Bool.and_eq_true, decide_eq_true_eq, beq_iff_eq] at ok
  exact wpAny_Name (wpAny_loadName_local (by rw [V₀.scp]; exact V₀.kind) (by unfold Env.kindOf; rw [V₀.scp]; exact ok.2) (by rw [V₀.loc]; exact hn) hy k) hd

theorem FrmF.but {T : Nat} {H H' : Heap} {I : Addr} {fm : Str → Option Value} (Fm : FrmF C.L C.G N β T m A₀ H fm) (hne : A₀ ≠ I) (hk : ∀ b q, b ≠ I → H.get? b = some q → H'.get? b = some q) : FrmF C.L C.G N β T m A₀ H' fm := by
  obtain ⟨⟨o, es, ep, ho, r⟩, l, out, new⟩ := Fm
  exact ⟨⟨o, es, ep, hk _ _ hne ho, r⟩, l, out, new⟩

/-- the body of the replace loop -/
theorem rep_body {si ki vi : Nat} {tp2 sp mp k2 v2 rp ap2 : Pos} {k l v : List Nat} {t u : Tok} {yl : Value} {fm : Str → Option Value} {Q : Flow → Shared → Prop} (ok0 : C.Ok) (V₀ : EnvOk C N sc env A₀) (oks : okSlot N sc si = true) (okk : okSlot N sc ki = true) (okv : okSlot N sc vi = true)
    (hl2 : (mp.endLine == rp.line) = true) (hd1 : (N.slots.getD si default == ("__debug__" : Str)) = false) (hd2 : (N.slots.getD ki default == ("__debug__" : Str)) = false) (hd3 : (N.slots.getD vi default == ("__debug__" : Str)) = false)
    (G : Gd C.w C.L C.G β s.toks h s.heap) (f6 : FrmF C.L C.G N β s.toks m A₀ s.heap fm) (ls : fm (N.slots.getD si default) = some yl) (lk : fm (N.slots.getD ki default) = some (.str ⟨k.toArray⟩ t)) (lv : fm (N.slots.getD vi default) = some (.str ⟨v.toArray⟩ u))
    (rl : VR C.L β s.toks (.str l) yl) (h4 : 0 < t) (u0 : 0 < u) (hne2 : t ≠ u) (hk0 : k ≠ []) (hlen : l.length + (l.length + 1) * v.length ≤ LIM)
    (kk : ∀ β8 H8 H9 T9, s.toks ≤ T9 → Ext β s.heap β8 H8 → ExtF A₀ β8 H8 β8 H9 → Gd C.w C.L C.G β8 T9 h H9 → Frm C.L C.G N β8 T9 (m.set si (some (.str (replace k v l)))) A₀ H9 → Q .next { s with heap := H9, toks := T9 }) :
    wpAny (model C.prog C.w) A (execs [.Assign [.Name (N.slots.getD si default) tp2] (.Call (.Attribute (.Name (N.slots.getD si default) sp) (Str.ofString "replace") mp) [.Name (N.slots.getD ki default) k2, .Name (N.slots.getD vi default) v2] [] rp) ap2] env) Q E s := by
  refine wpAny_execs_cons ?_
  refine wpAny_Assign_Name ?_ (by rfl)
  refine wpAny_Call_method (T := "str") (id := "str.replace") (by rfl) (by rfl) hl2 F.plainAttrs_str F.slot_str_replace F.type_str_replace ?_
  refine loadF V₀ oks hd1 f6.ns ls ?_
  have hT : s.TypeIs yl "str" := by obtain ⟨t, rfl, _⟩ := rl; exact typeIs_str _ _ _
  refine ⟨hT, fun b hb => (by obtain ⟨t, rfl, _⟩ := rl; cases hb), ?_⟩
  refine withB (N := N) (as := .cons (.loc ki k2) (.cons (.loc vi v2) .nil)) ?_
  refine spliced_cons (loadF V₀ okk hd2 f6.ns lk (spliced_cons (loadF V₀ okv hd3 f6.ns lv (spliced_nil ?_))))
  refine rep_sound ok0 G rl h4 u0 hne2 hk0 hlen fun z β8 H8 T8 t8 x8 g8 r8 => ?_
  have f8 : Frm C.L C.G N β8 T8 m A₀ H8 := Frm.ext ⟨⟨_, f6.ns, f6.lr⟩, f6.out, f6.new⟩ x8 t8
  refine store_sound (s := { s with heap := H8, toks := T8 }) V₀ oks g8 f8 r8 fun H9 T9 t9 x9 g9 f9 => ?_
  exact wpAny_execs_nil (kk β8 H8 H9 T9 (Nat.le_trans t8 t9) x8 x9 g9 f9)

/-- one turn of the replace loop, behind the drawing of a pair -/
theorem rep_turn {si ki vi : Nat} {kp vp tp tp2 sp mp k2 v2 rp ap2 : Pos} {I a tu : Addr} {i n ep : Nat} {k l v : List Nat} {t u : Tok} {ek ev : Value} {fm : Str → Option Value} {Q : Flow → Shared → Prop} (ok0 : C.Ok) (V₀ : EnvOk C N sc env A₀) (hA : AOk A d) (oks : okSlot N sc si = true) (okk : okSlot N sc ki = true) (okv : okSlot N sc vi = true)
    (nkv : N.slots.getD ki default ≠ N.slots.getD vi default) (nsk : N.slots.getD si default ≠ N.slots.getD ki default) (nsv : N.slots.getD si default ≠ N.slots.getD vi default)
    (hl2 : (mp.endLine == rp.line) = true) (hd1 : (N.slots.getD si default == ("__debug__" : Str)) = false) (hd2 : (N.slots.getD ki default == ("__debug__" : Str)) = false) (hd3 : (N.slots.getD vi default == ("__debug__" : Str)) = false)
    (i2 : IsItemIterOut s.heap I a i n ep ek ev tu) (htu : s.heap.get? tu = some { cls := .type "tuple", data := .seq #[ek, ev] }) (hI : I ∉ β) (hnI : C.G.get? I = none) (hne : A₀ ≠ I) (htI : tu ≠ I)
    (g2 : Gd C.w C.L C.G β s.toks h s.heap) (f2 : FrmF C.L C.G N β s.toks m A₀ s.heap fm) (hl : m.getD si none = some (.str l)) (hk : ek = .str ⟨k.toArray⟩ t) (hv : ev = .str ⟨v.toArray⟩ u)
    (h4 : 0 < t) (h5 : t < s.toks) (h6 : k.length ≤ LIM) (u0 : 0 < u) (u9 : u < s.toks) (ul : v.length ≤ LIM) (hne2 : t ≠ u) (hk0 : k ≠ []) (hlen : l.length + (l.length + 1) * v.length ≤ LIM)
    (kk : ∀ β' H' T', s.toks ≤ T' → Pre β β' → (∀ b o, b ∉ β → b ≠ A₀ → b ≠ I → s.heap.get? b = some o → H'.get? b = some o ∧ b ∉ β') → IsItemIter H' I a i n ep ek ev → I ∉ β' → Gd C.w C.L C.G β' T' h H' → Frm C.L C.G N β' T' (((m.set ki (some (.str k))).set vi (some (.str v))).set si (some (.str (replace k v l)))) A₀ H' → Q .next { s with heap := H', toks := T' }) :
    wpAny (model C.prog C.w) A (letOwnedTupleGo (.Tuple [.Name (N.slots.getD ki default) kp, .Name (N.slots.getD vi default) vp] 0 tp) (.ref I) (.ref tu)) (fun _ s1 => wpAny (model C.prog C.w) A (assign (.Tuple [.Name (N.slots.getD ki default) kp, .Name (N.slots.getD vi default) vp] 0 tp) env (.ref tu)) (fun _ s2 => wpAny (model C.prog C.w) A
      (execs [.Assign [.Name (N.slots.getD si default) tp2] (.Call (.Attribute (.Name (N.slots.getD si default) sp) (Str.ofString "replace") mp) [.Name (N.slots.getD ki default) k2, .Name (N.slots.getD vi default) v2] [] rp) ap2] env) Q E s2) E s1) E s := by
  subst hk hv
  refine wpAny_letOwnedTupleGo_items i2 fun H3 i3 s3 => ?_
  have k3 : ∀ b q, b ≠ I → s.heap.get? b = some q → H3.get? b = some q := fun b q n e => (s3.2 b n).trans e
  have g3 := g2.but hI hnI k3
  have f3 := f2.but hne k3
  have tu3 : IsTup H3 tu #[.str ⟨k.toArray⟩ t, .str ⟨v.toArray⟩ u] := ⟨_, k3 _ _ htI htu, rfl, _, rfl⟩
  refine assign_Tuple_tuple (s := { s with heap := H3 }) hA.hd tu3 rfl rfl fun H4 q4 => ?_
  have k4 : ∀ b q, H3.get? b = some q → H4.get? b = some q := extBut_keep (fun b o e => e) q4
  have g4 := g3.grow k4
  have f4 : FrmF C.L C.G N β s.toks m A₀ H4 fm := f3.but hne (fun b q _ e => k4 b q e)
  have i4 := k4 _ _ i3
  show wpAny _ _ (assignInOrder [assign (.Name (N.slots.getD ki default) kp) env, assign (.Name (N.slots.getD vi default) vp) env] [.str ⟨k.toArray⟩ t, .str ⟨v.toArray⟩ u]) _ _ _
  refine assignInOrder_cons (assign_Name ?_)
  refine storeF (s := { s with heap := H4 }) (v := .str k) V₀ okk g4 f4 ⟨t, rfl, h4, h5, h6⟩ fun H5 x5 g5 f5 k5 => ?_
  refine assignInOrder_cons (assign_Name ?_)
  refine storeF (s := { s with heap := H5, toks := s.toks + 1 }) (v := .str v) V₀ okv g5 f5 ⟨u, rfl, u0, Nat.lt_succ_of_lt u9, ul⟩ fun H6 x6 g6 f6 k6 => ?_
  refine assignInOrder_nil ?_
  have i6 := k6 _ _ (Ne.symm hne) (k5 _ _ (Ne.symm hne) i4)
  obtain ⟨yl, hyl, ryl⟩ := f2.lr.get hl
  have rl : VR C.L β (s.toks + 1 + 1) (.str l) yl := ryl.mono (Pre.refl _) (Nat.le_trans (Nat.le_succ _) (Nat.le_succ _))
  refine rep_body (s := { s with heap := H6, toks := s.toks + 1 + 1 }) ok0 V₀ oks okk okv hl2 hd1 hd2 hd3 g6 f6 ((if_neg nsv).trans ((if_neg nsk).trans hyl)) ((if_neg nkv).trans (if_pos rfl)) (if_pos rfl) rl h4 u0 hne2 hk0 hlen fun β8 H8 H9 T9 t9 x8 x9 g9 f9 => ?_
  have i8 := x8.keep _ _ hI i6
  have i9 := x9.keep _ _ i8.2 (Ne.symm hne) i8.1
  refine kk β8 H9 T9 (Nat.le_trans (Nat.le_succ _) (Nat.le_trans (Nat.le_succ _) t9)) (x5.pre.trans (x6.pre.trans (x8.pre.trans x9.pre))) (fun b o q1 q2 q3 e => ?_) i9.1 i9.2 g9 f9
  have e6 := k6 b o q2 (k5 b o q2 (k4 b o (k3 b o q3 e)))
  have e8 := x8.keep b o q1 e6
  exact x9.keep b o e8.2 q2 e8.1

noncomputable def repT (N : Nm) (ki vi : Nat) (kp vp tp : Pos) : Expr := .Tuple [.Name (N.slots.getD ki default) kp, .Name (N.slots.getD vi default) vp] 0 tp
noncomputable def repB (N : Nm) (si ki vi : Nat) (tp2 sp mp k2 v2 rp ap2 : Pos) : List Stmt := [.Assign [.Name (N.slots.getD si default) tp2] (.Call (.Attribute (.Name (N.slots.getD si default) sp) (Str.ofString "replace") mp) [.Name (N.slots.getD ki default) k2, .Name (N.slots.getD vi default) v2] [] rp) ap2]
noncomputable def RepI (C : Cx) (N : Nm) (A₀ : Addr) (si ki vi : Nat) (es : List (List Nat × V)) (a I : Addr) (kl ep : Nat) (s : Shared) (β : List Addr) (h : Hp) (m' : M) (n : Nat) (s1 : Shared) : Prop :=
  ∃ i β1 H1 T1 m1 ok ov, n + i = es.length ∧ s1 = { s with heap := H1, toks := T1 } ∧ s.toks ≤ T1 ∧ ExtF A₀ β s.heap β1 H1 ∧ I ∉ β1 ∧ Gd C.w C.L C.G β1 T1 h H1 ∧ Frm C.L C.G N β1 T1 m1 A₀ H1 ∧ IsItemIter H1 I a i kl ep ok ov ∧ reps si ki vi (es.drop i) m1 = some m'
structure RepOk (N : Nm) (sc : Scope) (si ki vi di : Nat) (ap cp mp rp : Pos) : Prop where
  oks : okSlot N sc si = true
  okk : okSlot N sc ki = true
  okv : okSlot N sc vi = true
  okd : okSlot N sc di = true
  hkv : ki ≠ vi
  hsk : si ≠ ki
  hsv : si ≠ vi
  l1 : (ap.endLine == cp.line) = true
  l2 : (mp.endLine == rp.line) = true
  d1 : (N.slots.getD si default == ("__debug__" : Str)) = false
  d2 : (N.slots.getD ki default == ("__debug__" : Str)) = false
  d3 : (N.slots.getD vi default == ("__debug__" : Str)) = false
  d4 : (N.slots.getD di default == ("__debug__" : Str)) = false
theorem rep_ok {si ki vi di : Nat} {kp vp tp dp ap cp tp2 sp mp k2 v2 rp ap2 p : Pos} (ok : MS.ok N sc (.rep si ki vi di kp vp tp dp ap cp tp2 sp mp k2 v2 rp ap2 p) = true) : RepOk N sc si ki vi di ap cp mp rp := by
  replace ok := (show (_ && _) = true from ok)
  simp only [Bool.and_eq_true, decide_eq_true_eq, List.any_cons, List.any_nil, Bool.not_eq_true', Bool.or_eq_false_iff] at ok
  obtain ⟨⟨⟨⟨⟨⟨⟨⟨⟨oks, okk⟩, okv⟩, okd⟩, hkv⟩, hsk⟩, hsv⟩, hl1⟩, hl2⟩, hd1, hd2, hd3, hd4, _⟩ := ok
  exact ⟨oks, okk, okv, okd, hkv, hsk, hsv, hl1, hl2, hd1, hd2, hd3, hd4⟩
theorem slot_lt {i : Nat} (h : okSlot N sc i = true) : i < N.slots.length := of_decide_eq_true (Bool.and_eq_true_iff.mp h).1
theorem rep_inv {X : Hp} {si ki vi di : Nat} {kp vp tp dp ap cp tp2 sp mp k2 v2 rp ap2 p : Pos} (hs : stepS X S (.rep si ki vi di kp vp tp dp ap cp tp2 sp mp k2 v2 rp ap2 p) m h = some (f, m', h')) :
    ∃ dv ep es, m.getD di none = some dv ∧ obj X h dv = some (.dict true ep es) ∧ reps si ki vi es m = some m' ∧ f = .next ∧ h' = h := by
  obtain ⟨dv, e1, hs⟩ := bind_some hs
  obtain ⟨ep, es, hob, hs⟩ : ∃ ep es, obj X h dv = some (.dict true ep es) ∧ ((reps si ki vi es m).map fun m => (Fl.next, m, h)) = some (f, m', h') := by
    split at hs
    · rename_i ep es hh; exact ⟨ep, es, hh, hs⟩
    · cases hs
  obtain ⟨m2, e2, e3⟩ := map_some hs
  cases e3
  exact ⟨dv, ep, es, e1, hob, e2, rfl, rfl⟩
theorem reps_inv {si ki vi : Nat} {q : List Nat × V} {r : List (List Nat × V)} {m1 m' : M} (e : reps si ki vi (q :: r) m1 = some m') : ∃ k v l, q = (k, V.str v) ∧ m1.getD si none = some (.str l) ∧ k ≠ [] ∧ l.length + (l.length + 1) * v.length ≤ LIM ∧ reps si ki vi r (((m1.set ki (some (.str k))).set vi (some (.str v))).set si (some (.str (replace k v l)))) = some m' := by
  obtain ⟨k, v⟩ := q
  cases v <;> try (simp [reps] at e; done)
  rename_i v
  unfold reps at e
  split at e
  · rename_i l hl
    split at e
    · rename_i hc
      exact ⟨k, v, l, rfl, hl, hc.1, hc.2, e⟩
    · cases e
  · cases e

noncomputable def LoopR (C : Cx) (A : Around) (env : Env) (E : Value → Shared → Prop) (Q : Flow → Shared → Prop) (r : Result) (s' : Shared) : Prop := match r with | .ok f => Q f s' | .error e => cameBackBy (model C.prog C.w) A env E e s'
/-- a for loop over a dict's items, up to the loop -/
theorem for_items {tgt dE : Expr} {body : List Stmt} {ap cp p : Pos} {a : Addr} {kvs : List (Str × Value)} {ep : Nat} {Q : Flow → Shared → Prop} (big : (a == sysModules) = false) (q1 : s.heap.DictAt (strKind C.prog C.w) a kvs ep) (hl1 : (ap.endLine == cp.line) = true) (hb : attributeBase dE "items" env (eval dE env) = eval dE env) (hdE : ∀ Q', Q' (.ref a) s → wpAny (model C.prog C.w) A (eval dE env) Q' E s)
    (hse : ∀ x, foldedSetIterable (.Call (.Attribute dE "items" ap) [] [] cp) env x = pure x)
    (k : ∀ H0 I, (∀ b o, s.heap.get? b = some o → H0.get? b = some o) → s.heap.get? I = none → s.heap.objs.size < I → H0.get? I = some { cls := .type "dict_itemiterator", data := .fields #[.none, .bool false, .ref a, .int 0 0, .int kvs.length 0, .int ep 0, .none, .none] } →
      codeAny (model C.prog C.w) A (.forLoop tgt (.ref I) body [] env) (LoopR C A env E Q) { s with heap := H0 }) :
    wpAny (model C.prog C.w) A (exec (.For tgt (.Call (.Attribute dE "items" ap) [] [] cp) body [] p) env) Q E s := by
  refine wpAny_For ?_ hse
  refine wpAny_Call_items (knd := strKind C.prog C.w) big q1.dictOf hb hl1 hdE ?_
  refine wpAny_pyIter_items (knd := strKind C.prog C.w) (d := a) (kvs := kvs) (ep := ep) ⟨_, Heap.get?_push_size _ rfl, rfl, rfl⟩ (q1.push _) ?_
  refine k _ _ (fun b o e => Heap.get?_push_of_some _ (Heap.get?_push_of_some _ e)) ?_ ?_ (Heap.get?_push_size _ rfl)
  · cases e : s.heap.get? (s.heap.push { cls := .type "dict_items", data := .fields #[.ref a] }).objs.size with
    | none => rfl
    | some o => exact absurd (Heap.lt_size (Heap.get?_push_of_some _ e)) (Nat.lt_irrefl _)
  · exact Heap.lt_size (Heap.get?_push_size (o := { cls := .type "dict_items", data := .fields #[.ref a] }) s.heap rfl)

theorem ex_rep {si ki vi di : Nat} {kp vp tp dp ap cp tp2 sp mp k2 v2 rp ap2 p : Pos} {Q : Flow → Shared → Prop} (ok0 : C.Ok) (V₀ : EnvOk C N sc env A₀) (hA : AOk A d) (ok : MS.ok N sc (.rep si ki vi di kp vp tp dp ap cp tp2 sp mp k2 v2 rp ap2 p) = true)
    (hs : stepS C.X S (.rep si ki vi di kp vp tp dp ap cp tp2 sp mp k2 v2 rp ap2 p) m h = some (f, m', h')) (G : Gd C.w C.L C.G β s.toks h s.heap) (Fm : Frm C.L C.G N β s.toks m A₀ s.heap) (pst : PstX C N A₀ s β f m' h' Q) :
    GX C N env A Q E s (MS.rep si ki vi di kp vp tp dp ap cp tp2 sp mp k2 v2 rp ap2 p) := by
  have O := rep_ok ok
  have nkv := slot_ne V₀.nd (slot_lt O.okk) (slot_lt O.okv) O.hkv
  have nsk := slot_ne V₀.nd (slot_lt O.oks) (slot_lt O.okk) O.hsk
  have nsv := slot_ne V₀.nd (slot_lt O.oks) (slot_lt O.okv) O.hsv
  obtain ⟨dv, ep, es, e1, hob, e2, rfl, rfl⟩ := rep_inv hs
  clear hs ok
  obtain ⟨a, kvs, hDi, ry, big, q1, q2⟩ : ∃ a kvs, (∀ Q', Q' (.ref a) s → wpAny (model C.prog C.w) A (eval (.Name (N.slots.getD di default) dp) env) Q' E s) ∧ VR C.L β s.toks dv (.ref a) ∧ (a == sysModules) = false ∧ s.heap.DictAt (strKind C.prog C.w) a kvs ep ∧ kvs.length = es.length := by
    obtain ⟨⟨fm, hn, lr⟩, out, new⟩ := Fm
    obtain ⟨y, hy, ry⟩ := lr.get e1
    obtain ⟨a, ob, rfl, ha, r, big0⟩ := obj_at ok0 G hob ry
    obtain ⟨ents, rfl, al, nd, le⟩ := r
    obtain ⟨kvs, q1, q2⟩ := dictAt_of (C := C) ha al nd
    exact ⟨a, kvs, fun Q' k => loadF V₀ O.okd O.d4 hn hy k, ry, big0 (fun vs e => by cases e), q1, q2⟩
  refine for_items (tgt := repT N ki vi kp vp tp) (body := repB N si ki vi tp2 sp mp k2 v2 rp ap2) (kvs := kvs) (ep := ep) big q1 O.l1 rfl hDi (fun _ => rfl) fun H0 I k0 hI0 hIs hit0 => ?_
  have gI : I ∉ β ∧ C.G.get? I = none := by
    constructor
    · intro hm
      obtain ⟨k, hk⟩ := List.getElem?_of_mem hm
      obtain ⟨ob, q, _⟩ := G.objs k _ _ (List.getElem?_eq_getElem (by rw [← G.len]; exact (List.getElem?_eq_some_iff.mp hk).1)) hk
      rw [q] at hI0; cases hI0
    · cases e : C.G.get? I with
      | none => rfl
      | some o => rw [G.base _ _ e] at hI0; cases hI0
  have hne : A₀ ≠ I := by
    rintro rfl
    obtain ⟨_, ⟨o, _, _, ho, _⟩, _⟩ := Fm.ns
    rw [ho] at hI0; cases hI0
  refine codeAny_forLoop_any (I := RepI C N A₀ si ki vi es a I kvs.length ep s β h' m') (fun n s1 q => show Turn C A env (LoopR C A env E Q) (repT N ki vi kp vp tp) (.ref I) (repB N si ki vi tp2 sp mp k2 v2 rp ap2) (RepI C N A₀ si ki vi es a I kvs.length ep s β h' m') n s1 from ?_) es.length
    ⟨0, β, H0, s.toks, m, .none, .none, rfl, rfl, Nat.le_refl _, ⟨Pre.refl _, fun b o n _ e => ⟨k0 b o e, n⟩⟩, gI.1, G.grow k0, Fm.ext (Ext.grow k0) (Nat.le_refl _), hit0, e2⟩
  obtain ⟨i, β1, H1, T1, m1, ok, ov, hn, rfl, t1, x1, hI1, g1, f1, hit1, e⟩ := q
  have ry1 : VR C.L β1 T1 dv (.ref a) := ry.mono x1.pre t1
  obtain ⟨a', ob1, ea, ha1, r1, _⟩ := obj_at ok0 g1 hob ry1
  cases ea
  obtain ⟨ents1, rfl, al1, nd1, le1⟩ := r1
  have hz : ents1.size = kvs.length := by rw [q2, al1.length]; simp
  rcases Nat.lt_or_ge i es.length with hlt | hge
  · have hv : es[i]? = some es[i] := List.getElem?_eq_getElem hlt
    rw [List.drop_eq_getElem_cons hlt] at e
    obtain ⟨en, hen, t, h1, h2, h3, h4, h5, h6, h7⟩ := All2.at al1 hv
    obtain ⟨k, v, l, hev, hl, hk0, hlen, e⟩ := reps_inv e
    rw [hev] at h1 h2 h3 h6
    obtain ⟨u, hu, u0, u9, ul⟩ := h3
    have hne2 : t ≠ u := fun z => h7 rfl _ u hu z.symm
    have hnI := gI.2
    refine next_pair (s := { s with heap := H1, toks := T1 }) (I := I) (a := a) (i := i) (ep := ep) (ents := ents1) (by rw [hz]; exact hit1) ha1 hen fun H2 i2 tu2 k2' => ?_
    obtain ⟨⟨fm1, hn1, lr1⟩, out1, new1⟩ := f1
    refine rep_turn (s := { s with heap := H2, toks := T1 }) ok0 V₀ hA O.oks O.okk O.okv nkv nsk nsv O.l2 O.d1 O.d2 O.d3 i2 tu2 hI1 hnI hne (Nat.ne_of_gt (Heap.lt_size hit1)) (g1.but hI1 hnI k2') (FrmF.but ⟨hn1, lr1, out1, new1⟩ hne k2') hl h1 hu h4 h5 h6 u0 u9 ul hne2 hk0 hlen fun β8 H9 T9 t9 p9 x9 i9 n9 g9 f9 => ?_
    have x2 := x1.butI hI0 k2'
    have xx : ExtF A₀ β s.heap β8 H9 := ⟨x2.pre.trans p9, fun b o q1 q2 e => let ⟨e1, n1⟩ := x2.keep b o q1 q2 e; x9 b o n1 q2 (fun z => by rw [z, hI0] at e; cases e) e1⟩
    exact ⟨n - 1, by omega, i + 1, β8, H9, T9, _, en.key, en.val, by omega, rfl, Nat.le_trans t1 t9, xx, n9, g9, f9, by rw [← hz]; exact i9, e⟩
  · have hi : i = es.length := by omega
    subst hi
    rw [List.drop_length] at e
    cases e
    obtain ⟨kvs1, q3, q4⟩ := dictAt_of (C := C) ha1 al1 nd1
    refine wpAny_pyNext_items_end (s := { s with heap := H1, toks := T1 }) (knd := strKind C.prog C.w) (it := I) (d := a) (i := es.length) (ep := ep) (kvs := kvs1) (ok := ok) (ov := ov) hA.hd (by rw [q4.trans q2.symm]; exact hit1) q3 (List.getElem?_eq_none (by omega)) fun H2 hs2 => ?_
    refine wpAny_execs_nil ?_
    exact pst .next β1 H2 T1 t1 (x1.butI hI0 hs2) (g1.but hI1 gI.2 hs2) (f1.but hne hs2) rfl
end
end Mine

end

section
open PySem PySem.Calls PyProof.Rows PySem.W
namespace Mine

/-- what a def is in the model, and in the small language -/
structure FnOk (C : Cx) (fn : Fn) (a : Addr) (o : Obj) (fd : FuncData) (N : Nm) : Prop where
  ho : C.G.get? a = some o
  data : o.data = .func fd
  body : fd.body = .stmts (fn.body.back N)
  ok : fn.body.ok N fd.scope = true
  code : C.G.CodeRec fd.code fd.qualname
  cell : ∀ x ∈ fd.scope.names, x.2 ≠ .cell
  loc : ∀ x ∈ N.slots.take fn.np, fd.scope.names.lookup x = some .local
  glo : fd.globals = mainGlobals
  blt : fd.builtins = builtinsNs
  co : fd.scope.isCoroutine = false
  gen : fd.scope.isGenerator = false
  kind : fd.scope.kind = .function
  globs : N.globs = C.globs
  nd : N.slots.Nodup
  ns : N.slots.length = fn.nslots
  np : fn.np ≤ fn.nslots
  bind : ∀ (s : Shared) (xs : List Value), (∀ b o, C.G.get? b = some o → s.heap.get? b = some o) → xs.length = fn.np → BindsTo s fd ⟨xs, []⟩ ((N.slots.take fn.np).zip xs)
  bindD : ∀ j, fn.dflt = some j → ∃ x, VR C.L [] 0 (.ext j) x ∧ ∀ (s : Shared) (xs : List Value), (∀ b o, C.G.get? b = some o → s.heap.get? b = some o) → xs.length + 1 = fn.np → BindsTo s fd ⟨xs, []⟩ ((N.slots.take fn.np).zip (xs ++ [x]))

section
variable {C : Cx} {N : Nm} {sc : Scope} {env : Env} {A₀ : Addr} {A : Around} {d : Nat} {m m' : M} {h h' : Hp} {f : Fl} {s : Shared} {β : List Addr} {E : Value → Shared → Prop} {S : Sm}

theorem lookup_in {x : Str} {y : Value} : ∀ {l : List (Str × Value)}, (l.map (·.1)).Nodup → (x, y) ∈ l → l.lookup x = some y
  | (k, v) :: r, nd, hm => by
    rw [List.lookup_cons]
    cases hm with
    | head => simp
    | tail _ hm =>
      have hne : (x == k) = false := by
        refine beq_eq_false_iff_ne.mpr fun e => ?_
        exact (List.nodup_cons.mp nd).1 (e ▸ List.mem_map.mpr ⟨_, hm, rfl⟩)
      rw [hne]
      exact lookup_in (List.nodup_cons.mp nd).2 hm
theorem lookup_out {x : Str} : ∀ {l : List (Str × Value)}, x ∉ l.map (·.1) → l.lookup x = none
  | [], _ => rfl
  | (k, v) :: r, hm => by
    rw [List.lookup_cons]
    have hne : (x == k) = false := beq_eq_false_iff_ne.mpr fun e => hm (e ▸ .head _)
    rw [hne]
    exact lookup_out fun q => hm (.tail _ q)

theorem LR.start {L : Pl} {T : Nat} {g : Str → Option Value} : ∀ {as bs : List Str} {vs : List V} {xs : List Value}, All2 (VR L β T) vs xs → as.length = xs.length → (∀ p ∈ as.zip xs, g p.1 = some p.2) → (∀ b ∈ bs, g b = none) → LR L β T (as ++ bs) (vs.map some ++ List.replicate bs.length none) g
  | [], bs, [], [], _, _, _, h2 => by
    induction bs with
    | nil => trivial
    | cons b bs ih => exact ⟨h2 b (.head _), ih fun c hc => h2 c (.tail _ hc)⟩
  | a :: as, bs, v :: vs, x :: xs, al, hl, h1, h2 => by
    refine ⟨⟨x, h1 (a, x) (.head _), al.1⟩, LR.start al.2 (by simpa using hl) (fun p hp => h1 p (.tail _ hp)) h2⟩
  | [], _, _ :: _, [], al, _, _, _ => al.elim
  | [], _, [], _ :: _, al, _, _, _ => al.elim
  | [], _, _ :: _, _ :: _, _, hl, _, _ => by simp at hl
  | _ :: _, _, [], [], _, hl, _, _ => by simp at hl
  | _ :: _, _, [], _ :: _, al, _, _, _ => al.elim
  | _ :: _, _, _ :: _, [], al, _, _, _ => al.elim

theorem stepS_sound (ok0 : C.Ok) (ih : SEv C S d) (it : STr C S d) (ix : SEx C S d) (hev : ∀ (c : C0) (p : Pos) (m : M) (h : Hp) r, S.ev (.cst c p) m h = some r → r = (c.val, h))
    (hlo : ∀ (i : Nat) (p : Pos) (m : M) (h : Hp) r, S.ev (.loc i p) m h = some r → stepE C.X S (.loc i p) m h = some r) {Q : Flow → Shared → Prop}
    (t : MS) (V₀ : EnvOk C N sc env A₀) (hA : AOk A d) (ok : t.ok N sc = true) (hs : stepS C.X S t m h = some (f, m', h')) (G : Gd C.w C.L C.G β s.toks h s.heap) (Fm : Frm C.L C.G N β s.toks m A₀ s.heap) (pst : PstX C N A₀ s β f m' h' Q) :
    GX C N env A Q E s t := by
  cases t with
  | asg i tp e p => exact ex_asg ih V₀ hA ok hs G Fm pst
  | asg2 i j tpi tpj tp a b vp p => exact ex_asg2 ih V₀ hA ok hs G Fm pst
  | sets o i tp e p => exact ex_sets ih V₀ hA ok hs G Fm pst
  | ite t b o p => exact ex_ite it ix V₀ hA ok hs G Fm pst
  | «while» t b p => exact ex_while it ix V₀ hA ok hs G Fm pst
  | for1 x xp i b p => exact ex_for1 ok0 ih ix V₀ hA ok hs G Fm pst
  | rep _ _ _ _ _ _ _ _ _ _ _ _ _ _ _ _ _ _ => exact ex_rep ok0 V₀ hA ok hs G Fm pst
  | ret e p => exact ex_ret ih V₀ hA ok hs G Fm pst
  | app o e ap cp p => exact ex_app ih V₀ hA ok hs G Fm pst
  | unp3 i j k pi pj pk tp e p => exact ex_unp3 ok0 ih V₀ hA ok hs G Fm pst
  | for2 x y xp yp tp i b p => exact ex_for2 ok0 ih ix V₀ hA ok hs G Fm pst

theorem stepX_sound (ok0 : C.Ok) (ih : SEv C S d) (it : STr C S d) (ix : SEx C S d) (hev : ∀ (c : C0) (p : Pos) (m : M) (h : Hp) r, S.ev (.cst c p) m h = some r → r = (c.val, h))
    (hlo : ∀ (i : Nat) (p : Pos) (m : M) (h : Hp) r, S.ev (.loc i p) m h = some r → stepE C.X S (.loc i p) m h = some r) {Q : Flow → Shared → Prop}
    (b : MSs) (V₀ : EnvOk C N sc env A₀) (hA : AOk A d) (ok : b.ok N sc = true) (hs : stepX C.X S b m h = some (f, m', h')) (G : Gd C.w C.L C.G β s.toks h s.heap) (Fm : Frm C.L C.G N β s.toks m A₀ s.heap) (pst : PstX C N A₀ s β f m' h' Q) :
    wpAny (model C.prog C.w) A (execs (b.back N) env) Q E s := by
  cases b with
  | nil =>
    cases hs
    exact wpAny_execs_nil (pst .next β s.heap s.toks (Nat.le_refl _) (ExtF.refl _ _ _) G Fm rfl)
  | cons t r =>
    replace ok := (show (_ && _) = true from ok)
    simp only [Bool.and_eq_true] at ok
    obtain ⟨⟨f1, m1, h1⟩, e1, hs⟩ := bind_some hs
    refine wpAny_execs_cons ?_
    refine stepS_sound ok0 ih it ix hev hlo t V₀ hA ok.1 e1 G Fm fun x β1 H1 T1 t1 x1 g1 fr1 r1 => ?_
    cases f1 with
    | next =>
      cases r1
      exact ix r N sc env A₀ A m1 m' h1 h' f ok.2 V₀ hA hs { s with heap := H1, toks := T1 } β1 Q E g1 fr1 (pst.step t1 x1)
    | cont => cases r1; cases hs; exact pst .cont β1 H1 T1 t1 x1 g1 fr1 rfl
    | brk => cases r1; cases hs; exact pst .brk β1 H1 T1 t1 x1 g1 fr1 rfl
    | ret v => obtain ⟨y, rfl, r⟩ := r1; cases hs; exact pst _ β1 H1 T1 t1 x1 g1 fr1 ⟨y, rfl, r⟩

noncomputable def retV : Fl → V
  | .ret v => v
  | _ => .none

theorem stepC_sound (ok0 : C.Ok) (Fk : ∀ (g : Nat) (fn : Fn), C.F[g]? = some fn → ∃ a o fd N, C.L.fa[g]? = some a ∧ FnOk C fn a o fd N) (ix : SEx C S d) {g : Nat} {vs : List V} {v : V} {R : Result → Shared → Prop} {a : Addr} {xs : List Value}
    (hA : AOk A (d + 1)) (hs : stepC C.F S g vs h = some (v, h')) (ha : C.L.fa[g]? = some a) (r : All2 (VR C.L β s.toks) vs xs) (G : Gd C.w C.L C.G β s.toks h s.heap) (pst : Pst C s β h' v (fun x s' => R (.ok (.ret x)) s')) :
    codeAny (model C.prog C.w) A (.call (.ref a) ⟨xs, []⟩) R s := by
  obtain ⟨fn, e1, hs⟩ := bind_some hs
  obtain ⟨a', o, fd, N, ha', K⟩ := Fk g fn e1
  rw [ha] at ha'
  cases ha'
  obtain ⟨vs', e2, hs⟩ := bind_some hs
  obtain ⟨⟨fl, m', h1⟩, e3, hs⟩ := map_some hs
  have hv : v = retV fl ∧ h1 = h' := by
    cases fl <;> (cases hs; exact ⟨rfl, rfl⟩)
  clear hs
  obtain ⟨rfl, rfl⟩ := hv
  obtain ⟨xs', hlen, hr, hb⟩ : ∃ xs', vs'.length = fn.np ∧ All2 (VR C.L β s.toks) vs' xs' ∧ BindsTo s fd ⟨xs, []⟩ ((N.slots.take fn.np).zip xs') := by
    split at e2
    · rename_i hl
      cases e2
      exact ⟨xs, hl, r, K.bind s xs G.base (by rw [← r.length]; exact hl)⟩
    · split at e2
      · rename_i j hj
        split at e2
        · rename_i hl
          cases e2
          obtain ⟨x, rx, hx⟩ := K.bindD j hj
          refine ⟨xs ++ [x], by simpa using hl, All2.append r ⟨rx.mono ⟨β, rfl⟩ (Nat.zero_le _), trivial⟩, hx s xs G.base (by rw [← r.length]; exact hl)⟩
        · cases e2
      · cases e2
  have hxl : xs'.length = fn.np := by rw [← hr.length]; exact hlen
  have htl : (N.slots.take fn.np).length = fn.np := by
    rw [List.length_take, K.ns]; exact Nat.min_eq_left K.np
  have hb0 : ((N.slots.take fn.np).zip xs').map (·.1) = N.slots.take fn.np := by
    rw [List.map_fst_zip (by rw [htl, hxl]; exact Nat.le_refl _)]
  obtain ⟨c, co, cvs, ct, hcd⟩ := K.code
  refine codeAny_call_def (Nat.lt_of_le_of_lt (Nat.le_add_right _ _) hA.dep) (G.base _ _ K.ho) K.data (ok0.nolimit.keeps G.base) ⟨c, co, cvs, ct, hcd.1, G.base _ _ hcd.2.1, hcd.2.2⟩ K.body hb K.cell (fun x hx => K.loc x.1 (by rw [← hb0]; exact List.mem_map.mpr ⟨x, hx, rfl⟩)) ?_ K.co K.gen K.kind
  intro h₀ hn hk
  have hA' : AOk (A.deeper (callEnv fd s.heap.objs.size a)) d := by
    obtain ⟨a1, a2, a3⟩ := hA
    refine ⟨a1, ?_, ?_⟩
    · rw [depth_deeper]; omega
    · rw [units_deeper]; omega
  have hT : s.toks ≤ s.toks + ((N.slots.take fn.np).zip xs').length := Nat.le_add_right _ _
  have V₀ : EnvOk C N fd.scope (callEnv fd s.heap.objs.size a) s.heap.objs.size := ⟨rfl, K.kind, rfl, K.glo, K.blt, K.globs, K.nd⟩
  have hnd : (((N.slots.take fn.np).zip xs').reverse.map (·.1)).Nodup := by
    rw [List.map_reverse, hb0]
    have h0 : (N.slots.take fn.np).Nodup := K.nd.sublist (List.take_sublist _ _)
    unfold List.Nodup at h0 ⊢
    rw [List.pairwise_reverse]
    exact h0.imp fun h => Ne.symm h
  have hsp : N.slots.take fn.np ++ N.slots.drop fn.np = N.slots := List.take_append_drop _ _
  have hlr : LR C.L β s.toks N.slots (vs'.map some ++ List.replicate (fn.nslots - fn.np) none) (fun x => ((N.slots.take fn.np).zip xs').reverse.lookup x) := by
    have := LR.start (β := β) (g := fun x => ((N.slots.take fn.np).zip xs').reverse.lookup x) (bs := N.slots.drop fn.np) hr (by rw [htl, hxl]) (fun p hp => lookup_in hnd (List.mem_reverse.mpr hp)) fun b hb => by
      refine lookup_out ?_
      rw [List.map_reverse, hb0, List.mem_reverse]
      intro hm
      have := K.nd
      rw [← hsp, List.nodup_append] at this
      exact this.2.2 b hm b hb rfl
    rw [hsp, List.length_drop, K.ns] at this
    exact this
  have Fm : Frm C.L C.G N β (s.toks + ((N.slots.take fn.np).zip xs').length) (vs'.map some ++ List.replicate (fn.nslots - fn.np) none) s.heap.objs.size h₀ :=
    ⟨⟨_, hn, hlr.mono (Pre.refl _) hT⟩, G.fresh.1, G.fresh.2⟩
  refine ix fn.body N fd.scope _ _ _ _ m' h h1 fl K.ok V₀ hA' e3 { s with heap := h₀, toks := s.toks + ((N.slots.take fn.np).zip xs').length } β _ _ ((G.grow hk).toks hT) Fm fun y β' H' T' t1 x1 g1 f1 r1 => ?_
  have xx : Ext β s.heap β' H' := ⟨x1.pre, fun b o n e => x1.keep b o n (fun z => by rw [z] at e; exact Nat.lt_irrefl _ (Heap.lt_size e)) (hk b o e)⟩
  have tt := Nat.le_trans hT t1
  cases fl with
  | next => cases r1; exact pst _ β' H' T' tt xx g1 rfl
  | brk => cases r1; exact pst _ β' H' T' tt xx g1 rfl
  | cont => cases r1; exact pst _ β' H' T' tt xx g1 rfl
  | ret v => obtain ⟨z, rfl, r⟩ := r1; exact pst _ β' H' T' tt xx g1 r

structure Snd (C : Cx) (S : Sm) (d : Nat) : Prop where
  ev : SEv C S d
  tr : STr C S d
  cl : SCl C S d
  ex : SEx C S d
  cst : ∀ (c : C0) (p : Pos) (m : M) (h : Hp) r, S.ev (.cst c p) m h = some r → r = (c.val, h)
  loc : ∀ (i : Nat) (p : Pos) (m : M) (h : Hp) r, S.ev (.loc i p) m h = some r → stepE C.X S (.loc i p) m h = some r

theorem snd (ok0 : C.Ok) (Fk : ∀ (g : Nat) (fn : Fn), C.F[g]? = some fn → ∃ a o fd N, C.L.fa[g]? = some a ∧ FnOk C fn a o fd N) : ∀ n d, Snd C (Mi C.F C.X n d) d
  | 0, d => by
    refine ⟨?_, ?_, ?_, ?_, ?_, ?_⟩
    · intro e N sc env A₀ A m h h' v _ _ _ e1; cases e1
    · intro e N sc env A₀ A m h h' v t _ _ _ e1; cases e1
    · intro g vs h h' v A _ e1; cases e1
    · intro b N sc env A₀ A m m' h h' f _ _ _ e1; cases e1
    · intro c p m h r e; cases e
    · intro c p m h r e; cases e
  | n + 1, d => by
    have I := snd ok0 Fk n d
    refine ⟨?_, ?_, ?_, ?_, ?_, ?_⟩
    · intro e N sc env A₀ A m h h' v ok V₀ hA hs s β Q E G Fm pst
      exact stepE_sound ok0 I.ev I.tr I.cl I.cst e ok V₀ hA hs G Fm pst
    · intro e N sc env A₀ A m h h' v t ok V₀ hA hs ht s β Q E G Fm k
      exact stepT_sound ok0 I.ev I.tr I.cl I.cst e ok V₀ hA hs ht G Fm k
    · cases d with
      | zero => intro g vs h h' v A _ e1; cases e1
      | succ d =>
        intro g vs h h' v A hA hs s β a xs R ha r G pst
        exact stepC_sound ok0 Fk (snd ok0 Fk n d).ex hA hs ha r G pst
    · intro b N sc env A₀ A m m' h h' f ok V₀ hA hs s β Q E G Fm pst
      exact stepX_sound ok0 I.ev I.tr I.ex I.cst I.loc b V₀ hA ok hs G Fm pst
    · intro c p m h r e; cases e; rfl
    · intro i p m h r e; exact e
end
end Mine

end

section
open PySem
namespace Mine
noncomputable def fnames : List Str := [Str.ofString "dict_replace_saxutils", Str.ofString "escape", Str.ofString "unescape", Str.ofString "quoteattr", Str.ofString "_law_text", Str.ofString "_law_document", Str.ofString "_law_written", Str.ofString "_law_value", Str.ofString "_law_read", Str.ofString "_law_outer", Str.ofString "law"]
noncomputable def nm_dict_replace_saxutils : Nm := ⟨[Str.ofString "s", Str.ofString "d", Str.ofString "key", Str.ofString "value"], fnames⟩
noncomputable def b_dict_replace_saxutils : MSs :=
 (.cons (.rep 0 2 3 1 ⟨3, 8, 3, 11⟩ ⟨3, 13, 3, 18⟩ ⟨3, 8, 3, 18⟩ ⟨3, 22, 3, 23⟩ ⟨3, 22, 3, 29⟩ ⟨3, 22, 3, 31⟩ ⟨4, 8, 4, 9⟩ ⟨4, 12, 4, 13⟩ ⟨4, 12, 4, 21⟩ ⟨4, 22, 4, 25⟩ ⟨4, 27, 4, 32⟩ ⟨4, 12, 4, 33⟩ ⟨4, 8, 4, 33⟩ ⟨3, 4, 4, 33⟩)
 (.cons (.ret (.loc 0 ⟨5, 11, 5, 12⟩) ⟨5, 4, 5, 12⟩)
 .nil))
noncomputable def nm_escape : Nm := ⟨[Str.ofString "data", Str.ofString "entities"], fnames⟩
noncomputable def b_escape : MSs :=
 (.cons (.asg 0 ⟨7, 4, 7, 8⟩ (.meth .replace (.loc 0 ⟨7, 11, 7, 15⟩) ⟨7, 11, 7, 23⟩ (.cons (.cst (.str "&") ⟨7, 24, 7, 27⟩) (.cons (.cst (.str "&amp;") ⟨7, 29, 7, 36⟩) .nil)) ⟨7, 11, 7, 37⟩) ⟨7, 4, 7, 37⟩)
 (.cons (.asg 0 ⟨8, 4, 8, 8⟩ (.meth .replace (.loc 0 ⟨8, 11, 8, 15⟩) ⟨8, 11, 8, 23⟩ (.cons (.cst (.str ">") ⟨8, 24, 8, 27⟩) (.cons (.cst (.str "&gt;") ⟨8, 29, 8, 35⟩) .nil)) ⟨8, 11, 8, 36⟩) ⟨8, 4, 8, 36⟩)
 (.cons (.asg 0 ⟨9, 4, 9, 8⟩ (.meth .replace (.loc 0 ⟨9, 11, 9, 15⟩) ⟨9, 11, 9, 23⟩ (.cons (.cst (.str "<") ⟨9, 24, 9, 27⟩) (.cons (.cst (.str "&lt;") ⟨9, 29, 9, 35⟩) .nil)) ⟨9, 11, 9, 36⟩) ⟨9, 4, 9, 36⟩)
 (.cons (.ite (.loc 1 ⟨10, 7, 10, 15⟩)
 (.cons (.asg 0 ⟨11, 8, 11, 12⟩ (.call (.glob 0 ⟨11, 15, 11, 36⟩) (.cons (.loc 0 ⟨11, 37, 11, 41⟩) (.cons (.loc 1 ⟨11, 43, 11, 51⟩) .nil)) ⟨11, 15, 11, 52⟩) ⟨11, 8, 11, 52⟩)
 .nil)
 .nil ⟨10, 4, 11, 52⟩)
 (.cons (.ret (.loc 0 ⟨12, 11, 12, 15⟩) ⟨12, 4, 12, 15⟩)
 .nil)))))
noncomputable def nm_unescape : Nm := ⟨[Str.ofString "data", Str.ofString "entities"], fnames⟩
noncomputable def b_unescape : MSs :=
 (.cons (.asg 0 ⟨14, 4, 14, 8⟩ (.meth .replace (.loc 0 ⟨14, 11, 14, 15⟩) ⟨14, 11, 14, 23⟩ (.cons (.cst (.str "&lt;") ⟨14, 24, 14, 30⟩) (.cons (.cst (.str "<") ⟨14, 32, 14, 35⟩) .nil)) ⟨14, 11, 14, 36⟩) ⟨14, 4, 14, 36⟩)
 (.cons (.asg 0 ⟨15, 4, 15, 8⟩ (.meth .replace (.loc 0 ⟨15, 11, 15, 15⟩) ⟨15, 11, 15, 23⟩ (.cons (.cst (.str "&gt;") ⟨15, 24, 15, 30⟩) (.cons (.cst (.str ">") ⟨15, 32, 15, 35⟩) .nil)) ⟨15, 11, 15, 36⟩) ⟨15, 4, 15, 36⟩)
 (.cons (.ite (.loc 1 ⟨16, 7, 16, 15⟩)
 (.cons (.asg 0 ⟨17, 8, 17, 12⟩ (.call (.glob 0 ⟨17, 15, 17, 36⟩) (.cons (.loc 0 ⟨17, 37, 17, 41⟩) (.cons (.loc 1 ⟨17, 43, 17, 51⟩) .nil)) ⟨17, 15, 17, 52⟩) ⟨17, 8, 17, 52⟩)
 .nil)
 .nil ⟨16, 4, 17, 52⟩)
 (.cons (.ret (.meth .replace (.loc 0 ⟨18, 11, 18, 15⟩) ⟨18, 11, 18, 23⟩ (.cons (.cst (.str "&amp;") ⟨18, 24, 18, 31⟩) (.cons (.cst (.str "&") ⟨18, 33, 18, 36⟩) .nil)) ⟨18, 11, 18, 37⟩) ⟨18, 4, 18, 37⟩)
 .nil))))
noncomputable def nm_quoteattr : Nm := ⟨[Str.ofString "data", Str.ofString "entities"], fnames⟩
noncomputable def b_quoteattr : MSs :=
 (.cons (.asg 1 ⟨20, 4, 20, 12⟩ (.dict (.yes (.loc 1 ⟨20, 18, 20, 26⟩)) (.cons (.cst (.str "\n") ⟨20, 28, 20, 32⟩) (.cons (.cst (.str "\r") ⟨20, 43, 20, 47⟩) (.cons (.cst (.str "\t") ⟨20, 58, 20, 62⟩) .nil))) (.cons (.cst (.str "&#10;") ⟨20, 34, 20, 41⟩) (.cons (.cst (.str "&#13;") ⟨20, 49, 20, 56⟩) (.cons (.cst (.str "&#9;") ⟨20, 64, 20, 70⟩) .nil))) ⟨20, 15, 20, 71⟩) ⟨20, 4, 20, 71⟩)
 (.cons (.asg 0 ⟨21, 4, 21, 8⟩ (.call (.glob 1 ⟨21, 11, 21, 17⟩) (.cons (.loc 0 ⟨21, 18, 21, 22⟩) (.cons (.loc 1 ⟨21, 24, 21, 32⟩) .nil)) ⟨21, 11, 21, 33⟩) ⟨21, 4, 21, 33⟩)
 (.cons (.ite (.cmp .In (.cst (.str "\"") ⟨22, 7, 22, 10⟩) (.loc 0 ⟨22, 14, 22, 18⟩) ⟨22, 7, 22, 18⟩)
 (.cons (.ite (.cmp .In (.cst (.str "'") ⟨23, 11, 23, 14⟩) (.loc 0 ⟨23, 18, 23, 22⟩) ⟨23, 11, 23, 22⟩)
 (.cons (.asg 0 ⟨24, 12, 24, 16⟩ (.bin .Mod (.cst (.str "\"%s\"") ⟨24, 19, 24, 25⟩) (.meth .replace (.loc 0 ⟨24, 28, 24, 32⟩) ⟨24, 28, 24, 40⟩ (.cons (.cst (.str "\"") ⟨24, 41, 24, 44⟩) (.cons (.cst (.str "&quot;") ⟨24, 46, 24, 54⟩) .nil)) ⟨24, 28, 24, 55⟩) ⟨24, 19, 24, 55⟩) ⟨24, 12, 24, 55⟩)
 .nil)
 (.cons (.asg 0 ⟨26, 12, 26, 16⟩ (.bin .Mod (.cst (.str "'%s'") ⟨26, 19, 26, 25⟩) (.loc 0 ⟨26, 28, 26, 32⟩) ⟨26, 19, 26, 32⟩) ⟨26, 12, 26, 32⟩)
 .nil) ⟨23, 8, 26, 32⟩)
 .nil)
 (.cons (.asg 0 ⟨28, 8, 28, 12⟩ (.bin .Mod (.cst (.str "\"%s\"") ⟨28, 15, 28, 21⟩) (.loc 0 ⟨28, 24, 28, 28⟩) ⟨28, 15, 28, 28⟩) ⟨28, 8, 28, 28⟩)
 .nil) ⟨22, 4, 28, 28⟩)
 (.cons (.ret (.loc 0 ⟨29, 11, 29, 15⟩) ⟨29, 4, 29, 15⟩)
 .nil))))
noncomputable def nm_law_text : Nm := ⟨[Str.ofString "number", Str.ofString "signs", Str.ofString "text", Str.ofString "k"], fnames⟩
noncomputable def b_law_text : MSs :=
 (.cons (.asg 1 ⟨32, 4, 32, 9⟩ (.list (.cons (.cst (.str "a") ⟨32, 13, 32, 16⟩) (.cons (.cst (.str "&") ⟨32, 18, 32, 21⟩) (.cons (.cst (.str "<") ⟨32, 23, 32, 26⟩) (.cons (.cst (.str ">") ⟨32, 28, 32, 31⟩) (.cons (.cst (.str "\"") ⟨32, 33, 32, 36⟩) (.cons (.cst (.str "'") ⟨32, 38, 32, 41⟩) (.cons (.cst (.str "\n") ⟨32, 43, 32, 47⟩) (.cons (.cst (.str "\t") ⟨32, 49, 32, 53⟩) (.cons (.cst (.str "&lt;") ⟨32, 55, 32, 61⟩) (.cons (.cst (.str "&quot;") ⟨32, 63, 32, 71⟩) (.cons (.cst (.str "&amp;") ⟨32, 73, 32, 80⟩) (.cons (.cst (.str "\r") ⟨32, 82, 32, 86⟩) (.cons (.cst (.str "&#10;") ⟨32, 88, 32, 95⟩) .nil))))))))))))) ⟨32, 12, 32, 96⟩) ⟨32, 4, 32, 96⟩)
 (.cons (.asg 2 ⟨33, 4, 33, 8⟩ (.cst (.str "") ⟨33, 11, 33, 13⟩) ⟨33, 4, 33, 13⟩)
 (.cons (.for1 3 ⟨34, 8, 34, 9⟩ (.bcall .range ⟨34, 13, 34, 18⟩ (.cons (.bin .Add (.cst (.int 1) ⟨34, 19, 34, 20⟩) (.bin .Mod (.loc 0 ⟨34, 23, 34, 29⟩) (.cst (.int 3) ⟨34, 32, 34, 33⟩) ⟨34, 23, 34, 33⟩) ⟨34, 19, 34, 33⟩) .nil) ⟨34, 13, 34, 34⟩)
 (.cons (.asg 2 ⟨35, 8, 35, 12⟩ (.bin .Add (.loc 2 ⟨35, 15, 35, 19⟩) (.idx (.loc 1 ⟨35, 22, 35, 27⟩) (.bin .Mod (.bin .FloorDiv (.loc 0 ⟨35, 28, 35, 34⟩) (.bin .Add (.cst (.int 3) ⟨35, 39, 35, 40⟩) (.bin .Mult (.cst (.int 2) ⟨35, 43, 35, 44⟩) (.loc 3 ⟨35, 47, 35, 48⟩) ⟨35, 43, 35, 48⟩) ⟨35, 39, 35, 48⟩) ⟨35, 28, 35, 49⟩) (.cst (.int 13) ⟨35, 52, 35, 54⟩) ⟨35, 28, 35, 54⟩) ⟨35, 22, 35, 55⟩) ⟨35, 15, 35, 55⟩) ⟨35, 8, 35, 55⟩)
 .nil) ⟨34, 4, 35, 55⟩)
 (.cons (.ret (.loc 2 ⟨36, 11, 36, 15⟩) ⟨36, 4, 36, 15⟩)
 .nil))))
noncomputable def nm_law_document : Nm := ⟨[Str.ofString "script", Str.ofString "at", Str.ofString "deep", Str.ofString "items", Str.ofString "x", Str.ofString "text", Str.ofString "values", Str.ofString "k"], fnames⟩
noncomputable def b_law_document : MSs :=
 (.cons (.asg 3 ⟨38, 4, 38, 9⟩ (.list .nil ⟨38, 12, 38, 14⟩) ⟨38, 4, 38, 14⟩)
 (.cons (.while (.and2 (.cmp .Lt (.idx (.loc 1 ⟨39, 10, 39, 12⟩) (.cst (.int 0) ⟨39, 13, 39, 14⟩) ⟨39, 10, 39, 15⟩) (.bcall .len ⟨39, 18, 39, 21⟩ (.cons (.loc 0 ⟨39, 22, 39, 28⟩) .nil) ⟨39, 18, 39, 29⟩) ⟨39, 10, 39, 29⟩) (.cmp .Lt (.bcall .len ⟨39, 34, 39, 37⟩ (.cons (.loc 3 ⟨39, 38, 39, 43⟩) .nil) ⟨39, 34, 39, 44⟩) (.cst (.int 6) ⟨39, 47, 39, 48⟩) ⟨39, 34, 39, 48⟩) ⟨39, 10, 39, 48⟩)
 (.cons (.asg 4 ⟨40, 8, 40, 9⟩ (.bcall .abs ⟨40, 12, 40, 15⟩ (.cons (.idx (.loc 0 ⟨40, 16, 40, 22⟩) (.idx (.loc 1 ⟨40, 23, 40, 25⟩) (.cst (.int 0) ⟨40, 26, 40, 27⟩) ⟨40, 23, 40, 28⟩) ⟨40, 16, 40, 29⟩) .nil) ⟨40, 12, 40, 30⟩) ⟨40, 8, 40, 30⟩)
 (.cons (.sets (.loc 1 ⟨41, 8, 41, 10⟩) (.cst (.int 0) ⟨41, 11, 41, 12⟩) ⟨41, 8, 41, 13⟩ (.bin .Add (.idx (.loc 1 ⟨41, 16, 41, 18⟩) (.cst (.int 0) ⟨41, 19, 41, 20⟩) ⟨41, 16, 41, 21⟩) (.cst (.int 1) ⟨41, 24, 41, 25⟩) ⟨41, 16, 41, 25⟩) ⟨41, 8, 41, 25⟩)
 (.cons (.ite (.cmp .Eq (.bin .Mod (.loc 4 ⟨42, 11, 42, 12⟩) (.cst (.int 4) ⟨42, 15, 42, 16⟩) ⟨42, 11, 42, 16⟩) (.cst (.int 0) ⟨42, 20, 42, 21⟩) ⟨42, 11, 42, 21⟩)
 (.cons (.ret (.loc 3 ⟨43, 19, 43, 24⟩) ⟨43, 12, 43, 24⟩)
 .nil)
 .nil ⟨42, 8, 43, 24⟩)
 (.cons (.ite (.cmp .Lt (.bin .Mod (.loc 4 ⟨44, 11, 44, 12⟩) (.cst (.int 4) ⟨44, 15, 44, 16⟩) ⟨44, 11, 44, 16⟩) (.cst (.int 3) ⟨44, 19, 44, 20⟩) ⟨44, 11, 44, 20⟩)
 (.cons (.asg 5 ⟨45, 12, 45, 16⟩ (.call (.glob 4 ⟨45, 19, 45, 28⟩) (.cons (.bin .Mod (.bin .FloorDiv (.loc 4 ⟨45, 29, 45, 30⟩) (.cst (.int 4) ⟨45, 34, 45, 35⟩) ⟨45, 29, 45, 35⟩) (.cst (.int 100003) ⟨45, 38, 45, 44⟩) ⟨45, 29, 45, 44⟩) .nil) ⟨45, 19, 45, 45⟩) ⟨45, 12, 45, 45⟩)
 (.cons (.ite (.and2 (.cmp .Gt (.bcall .len ⟨46, 15, 46, 18⟩ (.cons (.loc 3 ⟨46, 19, 46, 24⟩) .nil) ⟨46, 15, 46, 25⟩) (.cst (.int 0) ⟨46, 28, 46, 29⟩) ⟨46, 15, 46, 29⟩) (.isStr (.idx (.loc 3 ⟨46, 45, 46, 50⟩) (.neg (.cst (.int 1) ⟨46, 52, 46, 53⟩) ⟨46, 51, 46, 53⟩) ⟨46, 45, 46, 54⟩) ⟨46, 34, 46, 44⟩ ⟨46, 56, 46, 59⟩ ⟨46, 34, 46, 60⟩) ⟨46, 15, 46, 60⟩)
 (.cons (.sets (.loc 3 ⟨47, 16, 47, 21⟩) (.neg (.cst (.int 1) ⟨47, 23, 47, 24⟩) ⟨47, 22, 47, 24⟩) ⟨47, 16, 47, 25⟩ (.bin .Add (.idx (.loc 3 ⟨47, 28, 47, 33⟩) (.neg (.cst (.int 1) ⟨47, 35, 47, 36⟩) ⟨47, 34, 47, 36⟩) ⟨47, 28, 47, 37⟩) (.loc 5 ⟨47, 40, 47, 44⟩) ⟨47, 28, 47, 44⟩) ⟨47, 16, 47, 44⟩)
 .nil)
 (.cons (.app (.loc 3 ⟨49, 16, 49, 21⟩) (.loc 5 ⟨49, 29, 49, 33⟩) ⟨49, 16, 49, 28⟩ ⟨49, 16, 49, 34⟩ ⟨49, 16, 49, 34⟩)
 .nil) ⟨46, 12, 49, 34⟩)
 .nil))
 (.cons (.asg 6 ⟨51, 12, 51, 18⟩ (.list .nil ⟨51, 21, 51, 23⟩) ⟨51, 12, 51, 23⟩)
 (.cons (.for1 7 ⟨52, 16, 52, 17⟩ (.bcall .range ⟨52, 21, 52, 26⟩ (.cons (.bin .Mod (.bin .FloorDiv (.loc 4 ⟨52, 27, 52, 28⟩) (.cst (.int 12) ⟨52, 32, 52, 34⟩) ⟨52, 27, 52, 34⟩) (.cst (.int 3) ⟨52, 37, 52, 38⟩) ⟨52, 27, 52, 38⟩) .nil) ⟨52, 21, 52, 39⟩)
 (.cons (.app (.loc 6 ⟨53, 16, 53, 22⟩) (.tup (.cons (.idx (.cst (.str "pq") ⟨53, 31, 53, 35⟩) (.loc 7 ⟨53, 36, 53, 37⟩) ⟨53, 31, 53, 38⟩) (.cons (.ite (.cmp .Lt (.loc 2 ⟨53, 79, 53, 83⟩) (.cst (.int 3) ⟨53, 86, 53, 87⟩) ⟨53, 79, 53, 87⟩) (.call (.glob 5 ⟨53, 40, 53, 53⟩) (.cons (.loc 0 ⟨53, 54, 53, 60⟩) (.cons (.loc 1 ⟨53, 62, 53, 64⟩) (.cons (.bin .Add (.loc 2 ⟨53, 66, 53, 70⟩) (.cst (.int 1) ⟨53, 73, 53, 74⟩) ⟨53, 66, 53, 74⟩) .nil))) ⟨53, 40, 53, 75⟩) (.list .nil ⟨53, 93, 53, 95⟩) ⟨53, 40, 53, 95⟩) .nil)) ⟨53, 30, 53, 96⟩) ⟨53, 16, 53, 29⟩ ⟨53, 16, 53, 97⟩ ⟨53, 16, 53, 97⟩)
 .nil) ⟨52, 12, 53, 97⟩)
 (.cons (.app (.loc 3 ⟨54, 12, 54, 17⟩) (.tup (.cons (.idx (.cst (.str "abc") ⟨54, 26, 54, 31⟩) (.bin .Mod (.bin .FloorDiv (.loc 4 ⟨54, 32, 54, 33⟩) (.cst (.int 4) ⟨54, 37, 54, 38⟩) ⟨54, 32, 54, 38⟩) (.cst (.int 3) ⟨54, 41, 54, 42⟩) ⟨54, 32, 54, 42⟩) ⟨54, 26, 54, 43⟩) (.cons (.loc 6 ⟨54, 45, 54, 51⟩) (.cons (.ite (.cmp .Lt (.loc 2 ⟨54, 92, 54, 96⟩) (.cst (.int 3) ⟨54, 99, 54, 100⟩) ⟨54, 92, 54, 100⟩) (.call (.glob 5 ⟨54, 53, 54, 66⟩) (.cons (.loc 0 ⟨54, 67, 54, 73⟩) (.cons (.loc 1 ⟨54, 75, 54, 77⟩) (.cons (.bin .Add (.loc 2 ⟨54, 79, 54, 83⟩) (.cst (.int 1) ⟨54, 86, 54, 87⟩) ⟨54, 79, 54, 87⟩) .nil))) ⟨54, 53, 54, 88⟩) (.list .nil ⟨54, 106, 54, 108⟩) ⟨54, 53, 54, 108⟩) .nil))) ⟨54, 25, 54, 109⟩) ⟨54, 12, 54, 24⟩ ⟨54, 12, 54, 110⟩ ⟨54, 12, 54, 110⟩)
 .nil))) ⟨44, 8, 54, 110⟩)
 .nil)))) ⟨39, 4, 54, 110⟩)
 (.cons (.ret (.loc 3 ⟨55, 11, 55, 16⟩) ⟨55, 4, 55, 16⟩)
 .nil)))
noncomputable def nm_law_written : Nm := ⟨[Str.ofString "items", Str.ofString "text", Str.ofString "item", Str.ofString "name", Str.ofString "values", Str.ofString "inside", Str.ofString "key", Str.ofString "value"], fnames⟩
noncomputable def b_law_written : MSs :=
 (.cons (.asg 1 ⟨57, 4, 57, 8⟩ (.cst (.str "") ⟨57, 11, 57, 13⟩) ⟨57, 4, 57, 13⟩)
 (.cons (.for1 2 ⟨58, 8, 58, 12⟩ (.loc 0 ⟨58, 16, 58, 21⟩)
 (.cons (.ite (.isStr (.loc 2 ⟨59, 22, 59, 26⟩) ⟨59, 11, 59, 21⟩ ⟨59, 28, 59, 31⟩ ⟨59, 11, 59, 32⟩)
 (.cons (.asg 1 ⟨60, 12, 60, 16⟩ (.bin .Add (.loc 1 ⟨60, 19, 60, 23⟩) (.call (.glob 1 ⟨60, 26, 60, 32⟩) (.cons (.loc 2 ⟨60, 33, 60, 37⟩) .nil) ⟨60, 26, 60, 38⟩) ⟨60, 19, 60, 38⟩) ⟨60, 12, 60, 38⟩)
 .nil)
 (.cons (.unp3 3 4 5 ⟨62, 12, 62, 16⟩ ⟨62, 18, 62, 24⟩ ⟨62, 26, 62, 32⟩ ⟨62, 12, 62, 32⟩ (.loc 2 ⟨62, 35, 62, 39⟩) ⟨62, 12, 62, 39⟩)
 (.cons (.asg 1 ⟨63, 12, 63, 16⟩ (.bin .Add (.bin .Add (.loc 1 ⟨63, 19, 63, 23⟩) (.cst (.str "<") ⟨63, 26, 63, 29⟩) ⟨63, 19, 63, 29⟩) (.loc 3 ⟨63, 32, 63, 36⟩) ⟨63, 19, 63, 36⟩) ⟨63, 12, 63, 36⟩)
 (.cons (.for2 6 7 ⟨64, 16, 64, 19⟩ ⟨64, 21, 64, 26⟩ ⟨64, 16, 64, 26⟩ (.loc 4 ⟨64, 30, 64, 36⟩)
 (.cons (.asg 1 ⟨65, 16, 65, 20⟩ (.bin .Add (.bin .Add (.bin .Add (.bin .Add (.loc 1 ⟨65, 23, 65, 27⟩) (.cst (.str " ") ⟨65, 30, 65, 33⟩) ⟨65, 23, 65, 33⟩) (.loc 6 ⟨65, 36, 65, 39⟩) ⟨65, 23, 65, 39⟩) (.cst (.str "=") ⟨65, 42, 65, 45⟩) ⟨65, 23, 65, 45⟩) (.call (.glob 3 ⟨65, 48, 65, 57⟩) (.cons (.call (.glob 6 ⟨65, 58, 65, 70⟩) (.cons (.loc 7 ⟨65, 71, 65, 76⟩) .nil) ⟨65, 58, 65, 77⟩) .nil) ⟨65, 48, 65, 78⟩) ⟨65, 23, 65, 78⟩) ⟨65, 16, 65, 78⟩)
 .nil) ⟨64, 12, 65, 78⟩)
 (.cons (.asg 1 ⟨66, 12, 66, 16⟩ (.bin .Add (.bin .Add (.bin .Add (.bin .Add (.bin .Add (.loc 1 ⟨66, 19, 66, 23⟩) (.cst (.str ">") ⟨66, 26, 66, 29⟩) ⟨66, 19, 66, 29⟩) (.call (.glob 6 ⟨66, 32, 66, 44⟩) (.cons (.loc 5 ⟨66, 45, 66, 51⟩) .nil) ⟨66, 32, 66, 52⟩) ⟨66, 19, 66, 52⟩) (.cst (.str "</") ⟨66, 55, 66, 59⟩) ⟨66, 19, 66, 59⟩) (.loc 3 ⟨66, 62, 66, 66⟩) ⟨66, 19, 66, 66⟩) (.cst (.str ">") ⟨66, 69, 66, 72⟩) ⟨66, 19, 66, 72⟩) ⟨66, 12, 66, 72⟩)
 .nil)))) ⟨59, 8, 66, 72⟩)
 .nil) ⟨58, 4, 66, 72⟩)
 (.cons (.ret (.loc 1 ⟨67, 11, 67, 15⟩) ⟨67, 4, 67, 15⟩)
 .nil)))
noncomputable def nm_law_value : Nm := ⟨[Str.ofString "text"], fnames⟩
noncomputable def b_law_value : MSs :=
 (.cons (.ret (.call (.glob 2 ⟨69, 11, 69, 19⟩) (.cons (.loc 0 ⟨69, 20, 69, 24⟩) (.cons (.dict .no (.cons (.cst (.str "&quot;") ⟨69, 27, 69, 35⟩) (.cons (.cst (.str "&#10;") ⟨69, 42, 69, 49⟩) (.cons (.cst (.str "&#13;") ⟨69, 57, 69, 64⟩) (.cons (.cst (.str "&#9;") ⟨69, 72, 69, 78⟩) .nil)))) (.cons (.cst (.str "\"") ⟨69, 37, 69, 40⟩) (.cons (.cst (.str "\n") ⟨69, 51, 69, 55⟩) (.cons (.cst (.str "\r") ⟨69, 66, 69, 70⟩) (.cons (.cst (.str "\t") ⟨69, 80, 69, 84⟩) .nil)))) ⟨69, 26, 69, 85⟩) .nil)) ⟨69, 11, 69, 86⟩) ⟨69, 4, 69, 86⟩)
 .nil)
noncomputable def nm_law_read : Nm := ⟨[Str.ofString "text", Str.ofString "at", Str.ofString "items", Str.ofString "end", Str.ofString "name", Str.ofString "values", Str.ofString "key", Str.ofString "quote", Str.ofString "inside"], fnames⟩
noncomputable def b_law_read : MSs :=
 (.cons (.asg 2 ⟨71, 4, 71, 9⟩ (.list .nil ⟨71, 12, 71, 14⟩) ⟨71, 4, 71, 14⟩)
 (.cons (.while (.and2 (.cmp .Lt (.idx (.loc 1 ⟨72, 10, 72, 12⟩) (.cst (.int 0) ⟨72, 13, 72, 14⟩) ⟨72, 10, 72, 15⟩) (.bcall .len ⟨72, 18, 72, 21⟩ (.cons (.loc 0 ⟨72, 22, 72, 26⟩) .nil) ⟨72, 18, 72, 27⟩) ⟨72, 10, 72, 27⟩) (.cmp .NotEq (.slice (.loc 0 ⟨72, 32, 72, 36⟩) (.yes (.idx (.loc 1 ⟨72, 37, 72, 39⟩) (.cst (.int 0) ⟨72, 40, 72, 41⟩) ⟨72, 37, 72, 42⟩)) (.yes (.bin .Add (.idx (.loc 1 ⟨72, 43, 72, 45⟩) (.cst (.int 0) ⟨72, 46, 72, 47⟩) ⟨72, 43, 72, 48⟩) (.cst (.int 2) ⟨72, 51, 72, 52⟩) ⟨72, 43, 72, 52⟩)) ⟨72, 37, 72, 52⟩ ⟨72, 32, 72, 53⟩) (.cst (.str "</") ⟨72, 57, 72, 61⟩) ⟨72, 32, 72, 61⟩) ⟨72, 10, 72, 61⟩)
 (.cons (.ite (.cmp .NotEq (.idx (.loc 0 ⟨73, 11, 73, 15⟩) (.idx (.loc 1 ⟨73, 16, 73, 18⟩) (.cst (.int 0) ⟨73, 19, 73, 20⟩) ⟨73, 16, 73, 21⟩) ⟨73, 11, 73, 22⟩) (.cst (.str "<") ⟨73, 26, 73, 29⟩) ⟨73, 11, 73, 29⟩)
 (.cons (.asg 3 ⟨74, 12, 74, 15⟩ (.meth .find (.loc 0 ⟨74, 18, 74, 22⟩) ⟨74, 18, 74, 27⟩ (.cons (.cst (.str "<") ⟨74, 28, 74, 31⟩) (.cons (.idx (.loc 1 ⟨74, 33, 74, 35⟩) (.cst (.int 0) ⟨74, 36, 74, 37⟩) ⟨74, 33, 74, 38⟩) .nil)) ⟨74, 18, 74, 39⟩) ⟨74, 12, 74, 39⟩)
 (.cons (.asg 3 ⟨75, 12, 75, 15⟩ (.ite (.cmp .Lt (.loc 3 ⟨75, 31, 75, 34⟩) (.cst (.int 0) ⟨75, 37, 75, 38⟩) ⟨75, 31, 75, 38⟩) (.bcall .len ⟨75, 18, 75, 21⟩ (.cons (.loc 0 ⟨75, 22, 75, 26⟩) .nil) ⟨75, 18, 75, 27⟩) (.loc 3 ⟨75, 44, 75, 47⟩) ⟨75, 18, 75, 47⟩) ⟨75, 12, 75, 47⟩)
 (.cons (.app (.loc 2 ⟨76, 12, 76, 17⟩) (.call (.glob 2 ⟨76, 25, 76, 33⟩) (.cons (.slice (.loc 0 ⟨76, 34, 76, 38⟩) (.yes (.idx (.loc 1 ⟨76, 39, 76, 41⟩) (.cst (.int 0) ⟨76, 42, 76, 43⟩) ⟨76, 39, 76, 44⟩)) (.yes (.loc 3 ⟨76, 45, 76, 48⟩)) ⟨76, 39, 76, 48⟩ ⟨76, 34, 76, 49⟩) .nil) ⟨76, 25, 76, 50⟩) ⟨76, 12, 76, 24⟩ ⟨76, 12, 76, 51⟩ ⟨76, 12, 76, 51⟩)
 (.cons (.sets (.loc 1 ⟨77, 12, 77, 14⟩) (.cst (.int 0) ⟨77, 15, 77, 16⟩) ⟨77, 12, 77, 17⟩ (.loc 3 ⟨77, 20, 77, 23⟩) ⟨77, 12, 77, 23⟩)
 .nil))))
 (.cons (.asg 4 ⟨79, 12, 79, 16⟩ (.slice (.loc 0 ⟨79, 19, 79, 23⟩) (.yes (.bin .Add (.idx (.loc 1 ⟨79, 24, 79, 26⟩) (.cst (.int 0) ⟨79, 27, 79, 28⟩) ⟨79, 24, 79, 29⟩) (.cst (.int 1) ⟨79, 32, 79, 33⟩) ⟨79, 24, 79, 33⟩)) (.yes (.bin .Add (.idx (.loc 1 ⟨79, 34, 79, 36⟩) (.cst (.int 0) ⟨79, 37, 79, 38⟩) ⟨79, 34, 79, 39⟩) (.cst (.int 2) ⟨79, 42, 79, 43⟩) ⟨79, 34, 79, 43⟩)) ⟨79, 24, 79, 43⟩ ⟨79, 19, 79, 44⟩) ⟨79, 12, 79, 44⟩)
 (.cons (.sets (.loc 1 ⟨80, 12, 80, 14⟩) (.cst (.int 0) ⟨80, 15, 80, 16⟩) ⟨80, 12, 80, 17⟩ (.bin .Add (.idx (.loc 1 ⟨80, 20, 80, 22⟩) (.cst (.int 0) ⟨80, 23, 80, 24⟩) ⟨80, 20, 80, 25⟩) (.cst (.int 2) ⟨80, 28, 80, 29⟩) ⟨80, 20, 80, 29⟩) ⟨80, 12, 80, 29⟩)
 (.cons (.asg 5 ⟨81, 12, 81, 18⟩ (.list .nil ⟨81, 21, 81, 23⟩) ⟨81, 12, 81, 23⟩)
 (.cons (.while (.cmp .Eq (.slice (.loc 0 ⟨82, 18, 82, 22⟩) (.yes (.idx (.loc 1 ⟨82, 23, 82, 25⟩) (.cst (.int 0) ⟨82, 26, 82, 27⟩) ⟨82, 23, 82, 28⟩)) (.yes (.bin .Add (.idx (.loc 1 ⟨82, 29, 82, 31⟩) (.cst (.int 0) ⟨82, 32, 82, 33⟩) ⟨82, 29, 82, 34⟩) (.cst (.int 1) ⟨82, 37, 82, 38⟩) ⟨82, 29, 82, 38⟩)) ⟨82, 23, 82, 38⟩ ⟨82, 18, 82, 39⟩) (.cst (.str " ") ⟨82, 43, 82, 46⟩) ⟨82, 18, 82, 46⟩)
 (.cons (.asg2 6 7 ⟨83, 16, 83, 19⟩ ⟨83, 21, 83, 26⟩ ⟨83, 16, 83, 26⟩ (.slice (.loc 0 ⟨83, 30, 83, 34⟩) (.yes (.bin .Add (.idx (.loc 1 ⟨83, 35, 83, 37⟩) (.cst (.int 0) ⟨83, 38, 83, 39⟩) ⟨83, 35, 83, 40⟩) (.cst (.int 1) ⟨83, 43, 83, 44⟩) ⟨83, 35, 83, 44⟩)) (.yes (.bin .Add (.idx (.loc 1 ⟨83, 45, 83, 47⟩) (.cst (.int 0) ⟨83, 48, 83, 49⟩) ⟨83, 45, 83, 50⟩) (.cst (.int 2) ⟨83, 53, 83, 54⟩) ⟨83, 45, 83, 54⟩)) ⟨83, 35, 83, 54⟩ ⟨83, 30, 83, 55⟩) (.slice (.loc 0 ⟨83, 57, 83, 61⟩) (.yes (.bin .Add (.idx (.loc 1 ⟨83, 62, 83, 64⟩) (.cst (.int 0) ⟨83, 65, 83, 66⟩) ⟨83, 62, 83, 67⟩) (.cst (.int 3) ⟨83, 70, 83, 71⟩) ⟨83, 62, 83, 71⟩)) (.yes (.bin .Add (.idx (.loc 1 ⟨83, 72, 83, 74⟩) (.cst (.int 0) ⟨83, 75, 83, 76⟩) ⟨83, 72, 83, 77⟩) (.cst (.int 4) ⟨83, 80, 83, 81⟩) ⟨83, 72, 83, 81⟩)) ⟨83, 62, 83, 81⟩ ⟨83, 57, 83, 82⟩) ⟨83, 29, 83, 83⟩ ⟨83, 16, 83, 83⟩)
 (.cons (.asg 3 ⟨84, 16, 84, 19⟩ (.meth .find (.loc 0 ⟨84, 22, 84, 26⟩) ⟨84, 22, 84, 31⟩ (.cons (.loc 7 ⟨84, 32, 84, 37⟩) (.cons (.bin .Add (.idx (.loc 1 ⟨84, 39, 84, 41⟩) (.cst (.int 0) ⟨84, 42, 84, 43⟩) ⟨84, 39, 84, 44⟩) (.cst (.int 4) ⟨84, 47, 84, 48⟩) ⟨84, 39, 84, 48⟩) .nil)) ⟨84, 22, 84, 49⟩) ⟨84, 16, 84, 49⟩)
 (.cons (.app (.loc 5 ⟨85, 16, 85, 22⟩) (.tup (.cons (.loc 6 ⟨85, 31, 85, 34⟩) (.cons (.call (.glob 8 ⟨85, 36, 85, 45⟩) (.cons (.call (.glob 7 ⟨85, 46, 85, 56⟩) (.cons (.slice (.loc 0 ⟨85, 57, 85, 61⟩) (.yes (.bin .Add (.idx (.loc 1 ⟨85, 62, 85, 64⟩) (.cst (.int 0) ⟨85, 65, 85, 66⟩) ⟨85, 62, 85, 67⟩) (.cst (.int 4) ⟨85, 70, 85, 71⟩) ⟨85, 62, 85, 71⟩)) (.yes (.loc 3 ⟨85, 72, 85, 75⟩)) ⟨85, 62, 85, 75⟩ ⟨85, 57, 85, 76⟩) .nil) ⟨85, 46, 85, 77⟩) (.cons (.list (.cons (.cst (.int 0) ⟨85, 80, 85, 81⟩) .nil) ⟨85, 79, 85, 82⟩) .nil)) ⟨85, 36, 85, 83⟩) .nil)) ⟨85, 30, 85, 84⟩) ⟨85, 16, 85, 29⟩ ⟨85, 16, 85, 85⟩ ⟨85, 16, 85, 85⟩)
 (.cons (.sets (.loc 1 ⟨86, 16, 86, 18⟩) (.cst (.int 0) ⟨86, 19, 86, 20⟩) ⟨86, 16, 86, 21⟩ (.bin .Add (.loc 3 ⟨86, 24, 86, 27⟩) (.cst (.int 1) ⟨86, 30, 86, 31⟩) ⟨86, 24, 86, 31⟩) ⟨86, 16, 86, 31⟩)
 .nil)))) ⟨82, 12, 86, 31⟩)
 (.cons (.sets (.loc 1 ⟨87, 12, 87, 14⟩) (.cst (.int 0) ⟨87, 15, 87, 16⟩) ⟨87, 12, 87, 17⟩ (.bin .Add (.idx (.loc 1 ⟨87, 20, 87, 22⟩) (.cst (.int 0) ⟨87, 23, 87, 24⟩) ⟨87, 20, 87, 25⟩) (.cst (.int 1) ⟨87, 28, 87, 29⟩) ⟨87, 20, 87, 29⟩) ⟨87, 12, 87, 29⟩)
 (.cons (.asg 8 ⟨88, 12, 88, 18⟩ (.call (.glob 8 ⟨88, 21, 88, 30⟩) (.cons (.loc 0 ⟨88, 31, 88, 35⟩) (.cons (.loc 1 ⟨88, 37, 88, 39⟩) .nil)) ⟨88, 21, 88, 40⟩) ⟨88, 12, 88, 40⟩)
 (.cons (.sets (.loc 1 ⟨89, 12, 89, 14⟩) (.cst (.int 0) ⟨89, 15, 89, 16⟩) ⟨89, 12, 89, 17⟩ (.bin .Add (.idx (.loc 1 ⟨89, 20, 89, 22⟩) (.cst (.int 0) ⟨89, 23, 89, 24⟩) ⟨89, 20, 89, 25⟩) (.cst (.int 4) ⟨89, 28, 89, 29⟩) ⟨89, 20, 89, 29⟩) ⟨89, 12, 89, 29⟩)
 (.cons (.app (.loc 2 ⟨90, 12, 90, 17⟩) (.tup (.cons (.loc 4 ⟨90, 26, 90, 30⟩) (.cons (.loc 5 ⟨90, 32, 90, 38⟩) (.cons (.loc 8 ⟨90, 40, 90, 46⟩) .nil))) ⟨90, 25, 90, 47⟩) ⟨90, 12, 90, 24⟩ ⟨90, 12, 90, 48⟩ ⟨90, 12, 90, 48⟩)
 .nil)))))))) ⟨73, 8, 90, 48⟩)
 .nil) ⟨72, 4, 90, 48⟩)
 (.cons (.ret (.loc 2 ⟨91, 11, 91, 16⟩) ⟨91, 4, 91, 16⟩)
 .nil)))
noncomputable def nm_law_outer : Nm := ⟨[Str.ofString "items", Str.ofString "count", Str.ofString "item"], fnames⟩
noncomputable def b_law_outer : MSs :=
 (.cons (.asg 1 ⟨93, 4, 93, 9⟩ (.cst (.int 0) ⟨93, 12, 93, 13⟩) ⟨93, 4, 93, 13⟩)
 (.cons (.for1 2 ⟨94, 8, 94, 12⟩ (.loc 0 ⟨94, 16, 94, 21⟩)
 (.cons (.ite (.not (.isStr (.loc 2 ⟨95, 26, 95, 30⟩) ⟨95, 15, 95, 25⟩ ⟨95, 32, 95, 35⟩ ⟨95, 15, 95, 36⟩) ⟨95, 11, 95, 36⟩)
 (.cons (.asg 1 ⟨96, 12, 96, 17⟩ (.bin .Add (.bin .Add (.loc 1 ⟨96, 20, 96, 25⟩) (.cst (.int 1) ⟨96, 28, 96, 29⟩) ⟨96, 20, 96, 29⟩) (.call (.glob 9 ⟨96, 32, 96, 42⟩) (.cons (.idx (.loc 2 ⟨96, 43, 96, 47⟩) (.cst (.int 2) ⟨96, 48, 96, 49⟩) ⟨96, 43, 96, 50⟩) .nil) ⟨96, 32, 96, 51⟩) ⟨96, 20, 96, 51⟩) ⟨96, 12, 96, 51⟩)
 .nil)
 .nil ⟨95, 8, 96, 51⟩)
 .nil) ⟨94, 4, 96, 51⟩)
 (.cons (.ret (.loc 1 ⟨97, 11, 97, 16⟩) ⟨97, 4, 97, 16⟩)
 .nil)))
noncomputable def nm_law : Nm := ⟨[Str.ofString "script", Str.ofString "items", Str.ofString "text"], fnames⟩
noncomputable def b_law : MSs :=
 (.cons (.asg 1 ⟨99, 4, 99, 9⟩ (.call (.glob 5 ⟨99, 12, 99, 25⟩) (.cons (.loc 0 ⟨99, 26, 99, 32⟩) (.cons (.list (.cons (.cst (.int 0) ⟨99, 35, 99, 36⟩) .nil) ⟨99, 34, 99, 37⟩) (.cons (.cst (.int 0) ⟨99, 39, 99, 40⟩) .nil))) ⟨99, 12, 99, 41⟩) ⟨99, 4, 99, 41⟩)
 (.cons (.asg 2 ⟨100, 4, 100, 8⟩ (.call (.glob 6 ⟨100, 11, 100, 23⟩) (.cons (.loc 1 ⟨100, 24, 100, 29⟩) .nil) ⟨100, 11, 100, 30⟩) ⟨100, 4, 100, 30⟩)
 (.cons (.ite (.or2 (.cmp .NotEq (.meth .count (.loc 2 ⟨101, 7, 101, 11⟩) ⟨101, 7, 101, 17⟩ (.cons (.cst (.str "<") ⟨101, 18, 101, 21⟩) .nil) ⟨101, 7, 101, 22⟩) (.bin .Mult (.cst (.int 2) ⟨101, 26, 101, 27⟩) (.call (.glob 9 ⟨101, 30, 101, 40⟩) (.cons (.loc 1 ⟨101, 41, 101, 46⟩) .nil) ⟨101, 30, 101, 47⟩) ⟨101, 26, 101, 47⟩) ⟨101, 7, 101, 47⟩) (.cmp .NotEq (.meth .count (.loc 2 ⟨101, 51, 101, 55⟩) ⟨101, 51, 101, 61⟩ (.cons (.cst (.str ">") ⟨101, 62, 101, 65⟩) .nil) ⟨101, 51, 101, 66⟩) (.bin .Mult (.cst (.int 2) ⟨101, 70, 101, 71⟩) (.call (.glob 9 ⟨101, 74, 101, 84⟩) (.cons (.loc 1 ⟨101, 85, 101, 90⟩) .nil) ⟨101, 74, 101, 91⟩) ⟨101, 70, 101, 91⟩) ⟨101, 51, 101, 91⟩) ⟨101, 7, 101, 91⟩)
 (.cons (.ret (.cst (.bool false) ⟨102, 15, 102, 20⟩) ⟨102, 8, 102, 20⟩)
 .nil)
 .nil ⟨101, 4, 102, 20⟩)
 (.cons (.ret (.cmp .Eq (.call (.glob 8 ⟨103, 11, 103, 20⟩) (.cons (.loc 2 ⟨103, 21, 103, 25⟩) (.cons (.list (.cons (.cst (.int 0) ⟨103, 28, 103, 29⟩) .nil) ⟨103, 27, 103, 30⟩) .nil)) ⟨103, 11, 103, 31⟩) (.loc 1 ⟨103, 35, 103, 40⟩) ⟨103, 11, 103, 40⟩) ⟨103, 4, 103, 40⟩)
 .nil))))
noncomputable def funs : List Fn := [⟨2, 4, b_dict_replace_saxutils, .none⟩,
  ⟨2, 2, b_escape, (some 1)⟩,
  ⟨2, 2, b_unescape, (some 2)⟩,
  ⟨2, 2, b_quoteattr, (some 3)⟩,
  ⟨1, 4, b_law_text, .none⟩,
  ⟨3, 8, b_law_document, .none⟩,
  ⟨1, 8, b_law_written, .none⟩,
  ⟨1, 1, b_law_value, .none⟩,
  ⟨2, 9, b_law_read, .none⟩,
  ⟨1, 3, b_law_outer, .none⟩,
  ⟨1, 3, b_law, .none⟩]
end Mine

end

section
open PySem
namespace Mine

/-! running the small machine: enough fuel is taken for granted -/
section
variable {X : Hp} {d : Nat} {m m1 m2 : M} {h h1 h2 h3 : Hp} {v u w : V} {e l r : ME} {p : Pos}
noncomputable def Ev (X : Hp) (d : Nat) (e : ME) (m : M) (h : Hp) (v : V) (h' : Hp) : Prop := ∃ N, ∀ n, N ≤ n → (Mi funs X n d).ev e m h = some (v, h')
noncomputable def Evs (X : Hp) (d : Nat) (es : MEs) (m : M) (h : Hp) (vs : List V) (h' : Hp) : Prop := ∃ N, ∀ n, N ≤ n → evs (Mi funs X n d) es m h = some (vs, h')
noncomputable def EvO (X : Hp) (d : Nat) (e : MO) (m : M) (h : Hp) (v : Option Int) (h' : Hp) : Prop := ∃ N, ∀ n, N ≤ n → evO (Mi funs X n d) e m h = some (v, h')
noncomputable def Ex (X : Hp) (d : Nat) (b : MSs) (m : M) (h : Hp) (f : Fl) (m' : M) (h' : Hp) : Prop := ∃ N, ∀ n, N ≤ n → (Mi funs X n d).ex b m h = some (f, m', h')
noncomputable def Sx (X : Hp) (d : Nat) (b : MS) (m : M) (h : Hp) (f : Fl) (m' : M) (h' : Hp) : Prop := ∃ N, ∀ n, N ≤ n → stepS X (Mi funs X n d) b m h = some (f, m', h')
noncomputable def Cl (X : Hp) (d : Nat) (g : Nat) (vs : List V) (h : Hp) (v : V) (h' : Hp) : Prop := ∃ N, ∀ n, N ≤ n → (Mi funs X n d).cl g vs h = some (v, h')
noncomputable def For (X : Hp) (d : Nat) (chk : Hp → Bool) (st : V → M → Hp → Option M) (b : MSs) (vs : List V) (m : M) (h : Hp) (f : Fl) (m' : M) (h' : Hp) : Prop := ∃ N, ∀ n, N ≤ n → mfor (Mi funs X n d) chk st b vs m h = some (f, m', h')
noncomputable def Wh (X : Hp) (d : Nat) (t : ME) (b : MSs) (m : M) (h : Hp) (f : Fl) (m' : M) (h' : Hp) : Prop := ∃ N, ∀ n k, N ≤ n → N ≤ k → mwhile X (Mi funs X n d) t b k m h = some (f, m', h')

theorem ev_of (N : Nat) (q : ∀ n, N ≤ n → stepE X (Mi funs X n d) e m h = some (v, h1)) : Ev X d e m h v h1 := ⟨N + 1, fun n hn => by
  obtain ⟨k, rfl⟩ : ∃ k, n = k + 1 := ⟨n - 1, by omega⟩
  exact q k (by omega)⟩
theorem ev_same (q : Ev X d e m h u h1) (hv : u = v) : Ev X d e m h v h1 := hv ▸ q
theorem e_loc {i : Nat} (q : m.getD i .none = some v) : Ev X d (.loc i p) m h v h := ev_of 0 fun n _ => by rw [stepE, q]; rfl
theorem e_glob {g : Nat} : Ev X d (.glob g p) m h (.fn g) h := ev_of 0 fun n _ => rfl
theorem e_cst {c : C0} : Ev X d (.cst c p) m h c.val h := ev_of 0 fun n _ => rfl
theorem e_bin {op : Operator} (a : Ev X d l m h u h1) (b : Ev X d r m h1 w h2) (q : binop op u w = some v) : Ev X d (.bin op l r p) m h v h2 := by
  obtain ⟨A, a⟩ := a; obtain ⟨B, b⟩ := b
  exact ev_of (A + B) fun n hn => by simp only [stepE, a n (by omega), b n (by omega), q, Option.bind_some, Option.map_some, if_true, if_false, Bool.false_eq_true]
theorem e_cmp {op : CmpOp} {c : Bool} (a : Ev X d l m h u h1) (b : Ev X d r m h1 w h2) (q : cmpop X h2 op u w = some c) : Ev X d (.cmp op l r p) m h (.bool c) h2 := by
  obtain ⟨A, a⟩ := a; obtain ⟨B, b⟩ := b
  exact ev_of (A + B) fun n hn => by simp only [stepE, a n (by omega), b n (by omega), q, Option.bind_some, Option.map_some, if_true, if_false, Bool.false_eq_true]
theorem e_and_t (a : Ev X d l m h u h1) (ht : truth X h1 u = some true) (b : Ev X d r m h1 w h2) : Ev X d (.and2 l r p) m h w h2 := by
  obtain ⟨A, a⟩ := a; obtain ⟨B, b⟩ := b
  exact ev_of (A + B) fun n hn => by simp only [stepE, a n (by omega), ht, b n (by omega), Option.bind_some, Option.map_some, if_true, if_false, Bool.false_eq_true]
theorem e_and_f (a : Ev X d l m h u h1) (ht : truth X h1 u = some false) : Ev X d (.and2 l r p) m h u h1 := by
  obtain ⟨A, a⟩ := a
  exact ev_of A fun n hn => by simp only [stepE, a n (by omega), ht, Option.bind_some, Option.map_some, if_true, if_false, Bool.false_eq_true]
theorem e_or_f (a : Ev X d l m h u h1) (ht : truth X h1 u = some false) (b : Ev X d r m h1 w h2) : Ev X d (.or2 l r p) m h w h2 := by
  obtain ⟨A, a⟩ := a; obtain ⟨B, b⟩ := b
  exact ev_of (A + B) fun n hn => by simp only [stepE, a n (by omega), ht, b n (by omega), Option.bind_some, Option.map_some, if_true, if_false, Bool.false_eq_true]
theorem e_not {c : Bool} (a : Ev X d e m h u h1) (ht : truth X h1 u = some c) : Ev X d (.not e p) m h (.bool (!c)) h1 := by
  obtain ⟨A, a⟩ := a
  exact ev_of A fun n hn => by simp only [stepE, a n (by omega), ht, Option.bind_some, Option.map_some, if_true, if_false, Bool.false_eq_true]
theorem e_neg {i : Int} (a : Ev X d e m h (.int i) h1) : Ev X d (.neg e p) m h (.int (-i)) h1 := by
  obtain ⟨A, a⟩ := a
  exact ev_of A fun n hn => by rw [stepE, a n (by omega)]; rfl
theorem e_ite_t {t : ME} (a : Ev X d t m h u h1) (ht : truth X h1 u = some true) (b : Ev X d l m h1 w h2) : Ev X d (.ite t l r p) m h w h2 := by
  obtain ⟨A, a⟩ := a; obtain ⟨B, b⟩ := b
  exact ev_of (A + B) fun n hn => by simp only [stepE, a n (by omega), ht, b n (by omega), Option.bind_some, Option.map_some, if_true, if_false, Bool.false_eq_true]
theorem e_ite_f {t : ME} (a : Ev X d t m h u h1) (ht : truth X h1 u = some false) (b : Ev X d r m h1 w h2) : Ev X d (.ite t l r p) m h w h2 := by
  obtain ⟨A, a⟩ := a; obtain ⟨B, b⟩ := b
  exact ev_of (A + B) fun n hn => by simp only [stepE, a n (by omega), ht, b n (by omega), Option.bind_some, Option.map_some, if_true, if_false, Bool.false_eq_true]
theorem e_idx (a : Ev X d l m h u h1) (b : Ev X d r m h1 w h2) (q : idxv X h2 u w = some v) : Ev X d (.idx l r p) m h v h2 := by
  obtain ⟨A, a⟩ := a; obtain ⟨B, b⟩ := b
  exact ev_of (A + B) fun n hn => by simp only [stepE, a n (by omega), b n (by omega), q, Option.bind_some, Option.map_some, if_true, if_false, Bool.false_eq_true]
theorem o_no : EvO X d .no m h .none h := ⟨0, fun _ _ => rfl⟩
theorem o_yes {i : Int} (a : Ev X d e m h (.int i) h1) : EvO X d (.yes e) m h (some i) h1 := by
  obtain ⟨A, a⟩ := a
  exact ⟨A, fun n hn => by simp only [evO, a n hn, Option.bind_some]⟩
theorem e_slice {lo hi : MO} {x : List Nat} {i j : Option Int} {sp : Pos} (a : Ev X d e m h (.str x) h1) (b : EvO X d lo m h1 i h2) (c : EvO X d hi m h2 j h3) : Ev X d (.slice e lo hi sp p) m h (.str (slc x i j)) h3 := by
  obtain ⟨A, a⟩ := a; obtain ⟨B, b⟩ := b; obtain ⟨D, c⟩ := c
  exact ev_of (A + B + D) fun n hn => by simp only [stepE, a n (by omega), b n (by omega), c n (by omega), Option.bind_some, Option.map_some, if_true, if_false, Bool.false_eq_true]
theorem a_nil : Evs X d .nil m h [] h := ⟨0, fun _ _ => rfl⟩
theorem a_cons {es : MEs} {vs : List V} (a : Ev X d e m h v h1) (b : Evs X d es m h1 vs h2) : Evs X d (.cons e es) m h (v :: vs) h2 := by
  obtain ⟨A, a⟩ := a; obtain ⟨B, b⟩ := b
  exact ⟨A + B, fun n hn => by simp only [evs, a n (by omega), b n (by omega), Option.bind_some, Option.map_some, if_true, if_false, Bool.false_eq_true]⟩
theorem e_call {g : Nat} {p1 : Pos} {es : MEs} {vs : List V} (a : Evs X d es m h vs h1) (b : Cl X d g vs h1 v h2) : Ev X d (.call (.glob g p1) es p) m h v h2 := by
  obtain ⟨A, a⟩ := a; obtain ⟨B, b⟩ := b
  exact ev_of (A + B + 1) fun n hn => by
    obtain ⟨k, rfl⟩ : ∃ k, n = k + 1 := ⟨n - 1, by omega⟩
    have hg : (Mi funs X (k + 1) d).ev (.glob g p1) m h = some (.fn g, h) := rfl
    simp only [stepE, hg, a (k + 1) (by omega), b (k + 1) (by omega), Option.bind_some]
theorem e_bcall {g : Bi} {p1 : Pos} {es : MEs} {vs : List V} (a : Evs X d es m h vs h1) (q : bcall X g vs h1 = some (v, h2)) : Ev X d (.bcall g p1 es p) m h v h2 := by
  obtain ⟨A, a⟩ := a
  exact ev_of A fun n hn => by rw [stepE, a n (by omega)]; exact q
theorem e_meth {g : Mt} {p1 : Pos} {es : MEs} {vs : List V} (a : Ev X d e m h u h1) (b : Evs X d es m h1 vs h2) (q : meth X g u vs h2 = some (v, h3)) : Ev X d (.meth g e p1 es p) m h v h3 := by
  obtain ⟨A, a⟩ := a; obtain ⟨B, b⟩ := b
  exact ev_of (A + B) fun n hn => by simp only [stepE, a n (by omega), b n (by omega), q, Option.bind_some, Option.map_some, if_true, if_false, Bool.false_eq_true]
theorem e_list {es : MEs} {vs : List V} (a : Evs X d es m h vs h1) : Ev X d (.list es p) m h (.ref h1.length) (h1 ++ [.list vs]) := by
  obtain ⟨A, a⟩ := a
  exact ev_of A fun n hn => by rw [stepE, a n (by omega)]; rfl
theorem e_tup {es : MEs} {vs : List V} (a : Evs X d es m h vs h1) : Ev X d (.tup es p) m h (.ref h1.length) (h1 ++ [.tup vs]) := by
  obtain ⟨A, a⟩ := a
  exact ev_of A fun n hn => by rw [stepE, a n (by omega)]; rfl
theorem e_dict {ks vs : MEs} {es : List (List Nat × V)} (q : pairs ks vs = some es) : Ev X d (.dict .no ks vs p) m h (.ref h.length) (h ++ [.dict true es.length es]) :=
  ev_of 0 fun n hn => by rw [stepE, q]; rfl
theorem e_spread {ks vs : MEs} {es more : List (List Nat × V)} {rep : Bool} {ep : Nat} (a : Ev X d e m h u h1) (ho : obj X h1 u = some (.dict rep ep es)) (q : pairs ks vs = some more) (hc : es.length ≤ 1000 ∧ (more.all fun p => (keyIn p.1 es).isNone) = true) : Ev X d (.dict (.yes e) ks vs p) m h (.ref h1.length) (h1 ++ [.dict rep (es.length + more.length) (es ++ more)]) := by
  obtain ⟨A, a⟩ := a
  exact ev_of A fun n hn => by
    simp only [stepE, a n hn, ho, q, if_pos hc, Option.bind_some]
theorem e_isStr_t {x : List Nat} {p1 p2 : Pos} (a : Ev X d e m h (.str x) h1) : Ev X d (.isStr e p1 p2 p) m h (.bool true) h1 := by
  obtain ⟨A, a⟩ := a
  exact ev_of A fun n hn => by rw [stepE, a n (by omega)]; rfl
theorem e_isStr_f {k : Nat} {vs : List V} {p1 p2 : Pos} (a : Ev X d e m h (.ref k) h1) (ho : h1[k]? = some (.tup vs)) : Ev X d (.isStr e p1 p2 p) m h (.bool false) h1 := by
  obtain ⟨A, a⟩ := a
  exact ev_of A fun n hn => by
    rw [stepE, a n (by omega)]
    show ((h1[k]?).bind _) = _
    rw [ho]; rfl

/-! statements -/
variable {s : MS} {b o bs : MSs} {f : Fl}
theorem x_nil : Ex X d .nil m h .next m h := ⟨1, fun n hn => by
  obtain ⟨k, rfl⟩ : ∃ k, n = k + 1 := ⟨n - 1, by omega⟩
  rfl⟩
theorem x_cons (a : Sx X d s m h .next m1 h1) (c : Ex X d b m1 h1 f m2 h2) : Ex X d (.cons s b) m h f m2 h2 := by
  obtain ⟨A, a⟩ := a; obtain ⟨B, c⟩ := c
  exact ⟨A + B + 1, fun n hn => by
    obtain ⟨k, rfl⟩ : ∃ k, n = k + 1 := ⟨n - 1, by omega⟩
    show stepX X (Mi funs X k d) (.cons s b) m h = _
    rw [stepX, a k (by omega)]
    exact c k (by omega)⟩
theorem x_ret (a : Sx X d s m h (.ret v) m1 h1) : Ex X d (.cons s b) m h (.ret v) m1 h1 := by
  obtain ⟨A, a⟩ := a
  exact ⟨A + 1, fun n hn => by
    obtain ⟨k, rfl⟩ : ∃ k, n = k + 1 := ⟨n - 1, by omega⟩
    show stepX X (Mi funs X k d) (.cons s b) m h = _
    rw [stepX, a k (by omega)]; rfl⟩
theorem s_asg {i : Nat} {tp : Pos} (a : Ev X d e m h v h1) : Sx X d (.asg i tp e p) m h .next (m.set i (some v)) h1 := by
  obtain ⟨A, a⟩ := a
  exact ⟨A, fun n hn => by rw [stepS, a n hn]; rfl⟩
theorem s_asg2 {i j : Nat} {p1 p2 p3 p4 : Pos} (a : Ev X d l m h u h1) (c : Ev X d r m h1 w h2) : Sx X d (.asg2 i j p1 p2 p3 l r p4 p) m h .next ((m.set i (some u)).set j (some w)) h2 := by
  obtain ⟨A, a⟩ := a; obtain ⟨B, c⟩ := c
  exact ⟨A + B, fun n hn => by simp only [stepS, a n (by omega), c n (by omega), Option.bind_some, Option.map_some, if_true, if_false, Bool.false_eq_true]⟩
theorem s_sets {tp : Pos} {k : Nat} {i : Int} {h4 : Hp} (a : Ev X d e m h v h1) (b : Ev X d l m h1 (.ref k) h2) (c : Ev X d r m h2 (.int i) h3) (q : setL h3 k i v = some h4) : Sx X d (.sets l r tp e p) m h .next m h4 := by
  obtain ⟨A, a⟩ := a; obtain ⟨B, b⟩ := b; obtain ⟨D, c⟩ := c
  exact ⟨A + B + D, fun n hn => by
    simp only [stepS, a n (by omega), b n (by omega), c n (by omega), q, Option.bind_some, Option.map_some, if_true, if_false, Bool.false_eq_true]⟩
theorem s_app {p1 p2 : Pos} {k : Nat} {h4 : Hp} (a : Ev X d l m h (.ref k) h1) (q : isL h1 k = true) (b : Ev X d e m h1 v h2) (q2 : appL h2 k v = some h4) : Sx X d (.app l e p1 p2 p) m h .next m h4 := by
  obtain ⟨A, a⟩ := a; obtain ⟨B, b⟩ := b
  exact ⟨A + B, fun n hn => by
    simp only [stepS, a n (by omega), q, b n (by omega), q2, Option.bind_some, Option.map_some, if_true, if_false, Bool.false_eq_true]⟩
theorem s_unp3 {i j k : Nat} {p1 p2 p3 p4 : Pos} {x y z : V} (a : Ev X d e m h v h1) (q : obj X h1 v = some (.tup [x, y, z])) : Sx X d (.unp3 i j k p1 p2 p3 p4 e p) m h .next (((m.set i (some x)).set j (some y)).set k (some z)) h1 := by
  obtain ⟨A, a⟩ := a
  exact ⟨A, fun n hn => by
    simp only [stepS, a n (by omega), q, Option.bind_some, Option.map_some, if_true, if_false, Bool.false_eq_true]⟩
theorem s_ite_t {t : ME} (a : Ev X d t m h u h1) (ht : truth X h1 u = some true) (c : Ex X d b m h1 f m2 h2) : Sx X d (.ite t b o p) m h f m2 h2 := by
  obtain ⟨A, a⟩ := a; obtain ⟨B, c⟩ := c
  exact ⟨A + B, fun n hn => by simp only [stepS, a n (by omega), ht, c n (by omega), Option.bind_some, Option.map_some, if_true, if_false, Bool.false_eq_true]⟩
theorem s_ite_f {t : ME} (a : Ev X d t m h u h1) (ht : truth X h1 u = some false) (c : Ex X d o m h1 f m2 h2) : Sx X d (.ite t b o p) m h f m2 h2 := by
  obtain ⟨A, a⟩ := a; obtain ⟨B, c⟩ := c
  exact ⟨A + B, fun n hn => by simp only [stepS, a n (by omega), ht, c n (by omega), Option.bind_some, Option.map_some, if_true, if_false, Bool.false_eq_true]⟩
theorem s_ret (a : Ev X d e m h v h1) : Sx X d (.ret e p) m h (.ret v) m h1 := by
  obtain ⟨A, a⟩ := a
  exact ⟨A, fun n hn => by rw [stepS, a n hn]; rfl⟩
theorem s_while {t : ME} (a : Wh X d t b m h f m2 h2) : Sx X d (.while t b p) m h f m2 h2 := by
  obtain ⟨A, a⟩ := a
  exact ⟨A + 1, fun n hn => by
    obtain ⟨k, rfl⟩ : ∃ k, n = k + 1 := ⟨n - 1, by omega⟩
    exact a (k + 1) k (by omega) (by omega)⟩
theorem w_stop {t : ME} (a : Ev X d t m h u h1) (ht : truth X h1 u = some false) : Wh X d t b m h .next m h1 := by
  obtain ⟨A, a⟩ := a
  exact ⟨A + 1, fun n k hn hk => by
    obtain ⟨j, rfl⟩ : ∃ j, k = j + 1 := ⟨k - 1, by omega⟩
    simp only [mwhile, a n (by omega), ht, Option.bind_some, Option.map_some, if_true, if_false, Bool.false_eq_true]⟩
theorem w_next {t : ME} (a : Ev X d t m h u h1) (ht : truth X h1 u = some true) (c : Ex X d b m h1 .next m1 h2) (g : Wh X d t b m1 h2 f m2 h3) : Wh X d t b m h f m2 h3 := by
  obtain ⟨A, a⟩ := a; obtain ⟨B, c⟩ := c; obtain ⟨D, g⟩ := g
  exact ⟨A + B + D + 1, fun n k hn hk => by
    obtain ⟨j, rfl⟩ : ∃ j, k = j + 1 := ⟨k - 1, by omega⟩
    simp only [mwhile, a n (by omega), ht, c n (by omega), g n j (by omega) (by omega), Option.bind_some, Option.map_some, if_true, if_false, Bool.false_eq_true]⟩
theorem w_ret {t : ME} (a : Ev X d t m h u h1) (ht : truth X h1 u = some true) (c : Ex X d b m h1 (.ret v) m1 h2) : Wh X d t b m h (.ret v) m1 h2 := by
  obtain ⟨A, a⟩ := a; obtain ⟨B, c⟩ := c
  exact ⟨A + B + 1, fun n k hn hk => by
    obtain ⟨j, rfl⟩ : ∃ j, k = j + 1 := ⟨k - 1, by omega⟩
    simp only [mwhile, a n (by omega), ht, c n (by omega), Option.bind_some, Option.map_some, if_true, if_false, Bool.false_eq_true]⟩
variable {chk : Hp → Bool} {st : V → M → Hp → Option M} {vs : List V}
theorem f_nil (hc : chk h = true) : For X d chk st b [] m h .next m h := ⟨0, fun n _ => by rw [mfor, if_pos hc]⟩
theorem f_cons (hc : chk h = true) (hs : st v m h = some m1) (a : Ex X d b m1 h .next m2 h1) {m3 : M} (g : For X d chk st b vs m2 h1 f m3 h2) : For X d chk st b (v :: vs) m h f m3 h2 := by
  obtain ⟨A, a⟩ := a; obtain ⟨B, g⟩ := g
  exact ⟨A + B, fun n hn => by
    rw [mfor, if_pos hc, hs, Option.bind_some, a n (by omega)]
    exact g n (by omega)⟩
theorem s_for {x : Nat} {xp : Pos} {k : Nat} (a : Ev X d e m h (.ref k) h1) (ho : h1[k]? = some (.list vs)) (hb : ∀ n p as q, e ≠ .bcall n p as q) (c : For X d (fun h' => decide (h'[k]? = some (.list vs))) (st1 x) b vs m h1 f m2 h2) : Sx X d (.for1 x xp e b p) m h f m2 h2 := by
  obtain ⟨A, a⟩ := a; obtain ⟨B, c⟩ := c
  refine ⟨A + B, fun n hn => ?_⟩
  have hi : iter1 X (Mi funs X n d) e m h = some (vs, (fun h' => decide (h'[k]? = some (.list vs))), h1) := by
    unfold iter1
    split
    · exact absurd rfl (hb _ _ _ _)
    · rw [a n (by omega)]
      show (match h1[k]? with | some (.list vs) => _ | _ => _) = _
      rw [ho]
  rw [stepS, hi]
  exact c n (by omega)
theorem s_for2 {x y : Nat} {xp yp tp : Pos} {k : Nat} (a : Ev X d e m h (.ref k) h1) (ho : h1[k]? = some (.list vs)) (hb : ∀ n p as q, e ≠ .bcall n p as q) (c : For X d (fun h' => decide (h'[k]? = some (.list vs))) (st2 X x y) b vs m h1 f m2 h2) : Sx X d (.for2 x y xp yp tp e b p) m h f m2 h2 := by
  obtain ⟨A, a⟩ := a; obtain ⟨B, c⟩ := c
  refine ⟨A + B, fun n hn => ?_⟩
  have hi : iter1 X (Mi funs X n d) e m h = some (vs, (fun h' => decide (h'[k]? = some (.list vs))), h1) := by
    unfold iter1
    split
    · exact absurd rfl (hb _ _ _ _)
    · rw [a n (by omega)]
      show (match h1[k]? with | some (.list vs) => _ | _ => _) = _
      rw [ho]
  rw [stepS, hi]
  exact c n (by omega)
theorem s_range {x : Nat} {xp p1 p2 : Pos} {k : Int} (a : Ev X d e m h (.int k) h1) (hk : k.natAbs ≤ LIM) (c : For X d (fun _ => true) (st1 x) b ((List.range k.toNat).map fun (i : Nat) => V.int (i : Int)) m h1 f m2 h2) : Sx X d (.for1 x xp (.bcall .range p1 (.cons e .nil) p2) b p) m h f m2 h2 := by
  obtain ⟨A, a⟩ := a; obtain ⟨B, c⟩ := c
  refine ⟨A + B, fun n hn => ?_⟩
  have hi : iter1 X (Mi funs X n d) (.bcall .range p1 (.cons e .nil) p2) m h = some (((List.range k.toNat).map fun (i : Nat) => V.int (i : Int)), (fun (_ : Hp) => true), h1) := by
    show (((Mi funs X n d).ev e m h).bind fun (a, h) => match a with
      | V.int n => if n.natAbs ≤ LIM then some (List.map (fun (i : Nat) => V.int (i : Int)) (List.range n.toNat), fun (_ : Hp) => true, h) else none
      | _ => none) = _
    simp only [a n (by omega), Option.bind_some, if_pos hk]
  rw [stepS, hi]
  exact c n (by omega)
theorem c_is {g : Nat} {fn : Fn} {as : List V} (hf : funs[g]? = some fn) (hn : as.length = fn.np) (hb : Ex X d fn.body (as.map some ++ List.replicate (fn.nslots - fn.np) Option.none) h (.ret v) m1 h1) : Cl X (d + 1) g as h v h1 := by
  obtain ⟨B, hb⟩ := hb
  exact ⟨B + 1, fun n hn' => by
    obtain ⟨k, rfl⟩ : ∃ k, n = k + 1 := ⟨n - 1, by omega⟩
    show stepC funs (Mi funs X k d) g as h = _
    rw [stepC, hf]
    show ((if as.length = fn.np then some as else _).bind _) = _
    rw [if_pos hn]
    show Option.map _ ((Mi funs X k d).ex fn.body (as.map some ++ List.replicate (fn.nslots - fn.np) Option.none) h) = _
    rw [hb k (by omega)]; rfl⟩
theorem c_dflt {g j : Nat} {fn : Fn} {as : List V} (hf : funs[g]? = some fn) (hn : as.length + 1 = fn.np) (hj : fn.dflt = some j) (hb : Ex X d fn.body ((as ++ [V.ext j]).map some ++ List.replicate (fn.nslots - fn.np) Option.none) h (.ret v) m1 h1) : Cl X (d + 1) g as h v h1 := by
  obtain ⟨B, hb⟩ := hb
  exact ⟨B + 1, fun n hn' => by
    obtain ⟨k, rfl⟩ : ∃ k, n = k + 1 := ⟨n - 1, by omega⟩
    show stepC funs (Mi funs X k d) g as h = _
    rw [stepC, hf]
    show ((if as.length = fn.np then some as else match fn.dflt with | some j => if as.length + 1 = fn.np then some (as ++ [V.ext j]) else Option.none | Option.none => Option.none).bind _) = _
    rw [if_neg (by omega), hj]
    show ((if as.length + 1 = fn.np then some (as ++ [V.ext j]) else _).bind _) = _
    rw [if_pos hn]
    show Option.map _ ((Mi funs X k d).ex fn.body ((as ++ [V.ext j]).map some ++ List.replicate (fn.nslots - fn.np) Option.none) h) = _
    rw [hb k (by omega)]; rfl⟩
end
end Mine

end

section
open PySem
namespace Mine

/-! texts as lists of signs: replace, words, codes -/
theorem repl_fuel {y z : List Nat} (hy : y ≠ []) : ∀ {n m : Nat} {l : List Nat}, l.length ≤ n → l.length ≤ m → repl y z n l = repl y z m l
  | 0, 0, _, _, _ => rfl
  | 0, m + 1, [], _, _ => rfl
  | n + 1, 0, [], _, _ => rfl
  | n + 1, m + 1, [], _, _ => rfl
  | 0, _, _ :: _, h, _ => by simp at h
  | _, 0, _ :: _, _, h => by simp at h
  | n + 1, m + 1, c :: r, h1, h2 => by
    have yl : 1 ≤ y.length := by cases y with | nil => exact absurd rfl hy | cons => simp
    simp only [List.length_cons] at h1 h2
    unfold repl
    rw [repl_fuel hy (n := n) (m := m) (l := r) (by omega) (by omega), repl_fuel hy (n := n) (m := m) (l := (c :: r).drop y.length) (by simp; omega) (by simp; omega)]
theorem replace_nil {y z : List Nat} : replace y z [] = [] := rfl
theorem replace_cons {y z : List Nat} (hy : y ≠ []) (c : Nat) (r : List Nat) : replace y z (c :: r) = if y.isPrefixOf (c :: r) then z ++ replace y z ((c :: r).drop y.length) else c :: replace y z r := by
  have yl : 1 ≤ y.length := by cases y with | nil => exact absurd rfl hy | cons => simp
  unfold replace
  show repl y z (r.length + 1) (c :: r) = _
  rw [repl]
  rw [repl_fuel hy (n := r.length) (m := ((c :: r).drop y.length).length) (l := (c :: r).drop y.length) (by simp; omega) (Nat.le_refl _)]
/-- single signs -/
theorem replace_one {c : Nat} {z : List Nat} : ∀ l : List Nat, replace [c] z l = l.flatMap fun x => if x = c then z else [x]
  | [] => rfl
  | x :: r => by
    rw [replace_cons (by simp), List.flatMap_cons, ← replace_one r]
    by_cases h : x = c
    · subst h
      simp [List.isPrefixOf]
    · have : ([c].isPrefixOf (x :: r)) = false := by simp [List.isPrefixOf, Ne.symm h]
      rw [this]
      simp [h]
theorem replace_hit {y z r : List Nat} (hy : y ≠ []) : replace y z (y ++ r) = z ++ replace y z r := by
  cases y with
  | nil => exact absurd rfl hy
  | cons a y =>
    rw [List.cons_append, replace_cons hy]
    have : ((a :: y).isPrefixOf (a :: (y ++ r))) = true := isP_iff.mpr ⟨r, rfl⟩
    rw [this, if_pos rfl]
    congr 2
    rw [← List.cons_append, List.drop_left]
theorem replace_skip {y z : List Nat} (hy : y.head? = some 38) : ∀ (v r : List Nat), 38 ∉ v → replace y z (v ++ r) = v ++ replace y z r
  | [], r, _ => rfl
  | c :: v, r, h => by
    have hy0 : y ≠ [] := by rintro rfl; cases hy
    rw [List.cons_append, replace_cons hy0, List.cons_append, ← replace_skip hy v r fun q => h (.tail _ q)]
    cases y with
    | nil => cases hy
    | cons a y =>
      cases hy
      have : ((38 :: y).isPrefixOf (c :: (v ++ r))) = false := by
        simp only [List.isPrefixOf, Bool.and_eq_false_iff, beq_eq_false_iff_ne]
        exact .inl fun e => h (e ▸ .head _)
      rw [this]; rfl

noncomputable def isWord (w : List Nat) : Prop := ∃ u, w = 38 :: (u ++ [59]) ∧ 59 ∉ u ∧ 38 ∉ u
theorem split_first : ∀ {u v t r : List Nat}, 59 ∉ u → 59 ∉ v → u ++ 59 :: t = v ++ 59 :: r → u = v
  | [], [], _, _, _, _, _ => rfl
  | [], c :: v, _, _, _, h2, e => by
    injection e with e1 e2
    exact absurd (e1 ▸ .head _) h2
  | c :: u, [], _, _, h1, _, e => by
    injection e with e1 e2
    exact absurd (e1 ▸ .head _) h1
  | c :: u, d :: v, _, _, h1, h2, e => by
    injection e with e1 e2
    rw [e1, split_first (fun q => h1 (.tail _ q)) (fun q => h2 (.tail _ q)) e2]
theorem word_prefix {y c r : List Nat} (hy : isWord y) (hc : isWord c) (h : y <+: c ++ r) : y = c := by
  obtain ⟨u, rfl, u1, _⟩ := hy
  obtain ⟨v, rfl, v1, _⟩ := hc
  obtain ⟨t, e⟩ := h
  simp only [List.cons_append, List.append_assoc, List.singleton_append, List.cons.injEq, true_and] at e
  rw [split_first u1 v1 e]
theorem isWord.head {y : List Nat} (h : isWord y) : y.head? = some 38 := by obtain ⟨u, rfl, _⟩ := h; rfl
theorem isWord.ne {y : List Nat} (h : isWord y) : y ≠ [] := by obtain ⟨u, rfl, _⟩ := h; simp

/-- a code's words: a reference, or a single sign that is no & -/
noncomputable def okCode (w : List Nat) : Prop := isWord w ∨ ∃ c, w = [c] ∧ c ≠ 38
theorem replace_code {y z : List Nat} (hy : isWord y) {code : Nat → List Nat} : ∀ l : List Nat, (∀ x ∈ l, okCode (code x)) → replace y z (l.flatMap code) = l.flatMap fun x => if code x = y then z else code x
  | [], _ => rfl
  | x :: r, h => by
    have ih := replace_code hy (z := z) r fun q hq => h q (.tail _ hq)
    rw [List.flatMap_cons, List.flatMap_cons, ← ih]
    rcases h x (.head _) with hw | ⟨c, hc, hc2⟩
    · by_cases e : code x = y
      · rw [if_pos e, e, replace_hit hy.ne]
      · rw [if_neg e]
        obtain ⟨v, hv, v1, v2⟩ := id hw
        have np : y.isPrefixOf (code x ++ r.flatMap code) = false := by
          cases q : y.isPrefixOf (code x ++ r.flatMap code) with
          | false => rfl
          | true => exact absurd (word_prefix hy hw (isP_iff.mp q)).symm e
        rw [hv] at np ⊢
        rw [List.cons_append] at np ⊢
        rw [replace_cons hy.ne, np]
        rw [if_neg Bool.false_ne_true, replace_skip hy.head (v ++ [59]) _ (by simp [v2])]
        rfl
    · have : code x ≠ y := by
        rintro e
        obtain ⟨u, hu, _⟩ := hy
        rw [hc, hu] at e
        injection e with e1 e2
        exact hc2 e1
      rw [if_neg this, hc, replace_skip hy.head [c] _ (by simpa using Ne.symm hc2)]

end Mine

end

section
open PySem
namespace Mine

/-! the writers of the law, and their readers -/
noncomputable def amp : List Nat := lit "&amp;"
noncomputable def code3 (x : Nat) : List Nat := if x = 38 then lit "&amp;" else if x = 62 then lit "&gt;" else if x = 60 then lit "&lt;" else [x]
noncomputable def code6 (x : Nat) : List Nat := if x = 10 then lit "&#10;" else if x = 13 then lit "&#13;" else if x = 9 then lit "&#9;" else code3 x
noncomputable def code7 (x : Nat) : List Nat := if x = 34 then lit "&quot;" else code6 x
noncomputable def E3 (l : List Nat) : List Nat := replace (lit "<") (lit "&lt;") (replace (lit ">") (lit "&gt;") (replace (lit "&") (lit "&amp;") l))
noncomputable def EE (es : List (List Nat × List Nat)) (l : List Nat) : List Nat := es.foldl (fun l e => replace e.1 e.2 l) (E3 l)
noncomputable def UU (es : List (List Nat × List Nat)) (l : List Nat) : List Nat := replace (lit "&amp;") (lit "&") (es.foldl (fun l e => replace e.1 e.2 l) (replace (lit "&gt;") (lit ">") (replace (lit "&lt;") (lit "<") l)))

theorem flat_flat {f g : Nat → List Nat} (l : List Nat) : (l.flatMap g).flatMap f = l.flatMap fun x => (g x).flatMap f := List.flatMap_assoc
theorem flat_congr {f g : Nat → List Nat} {l : List Nat} (h : ∀ x ∈ l, f x = g x) : l.flatMap f = l.flatMap g := by
  induction l with
  | nil => rfl
  | cons x r ih => rw [List.flatMap_cons, List.flatMap_cons, h x (.head _), ih fun q hq => h q (.tail _ hq)]
theorem flat_one (l : List Nat) : (l.flatMap fun x => [x]) = l := by
  induction l with
  | nil => rfl
  | cons x r ih => rw [List.flatMap_cons, ih]; rfl

theorem E3_code (l : List Nat) : E3 l = l.flatMap code3 := by
  unfold E3
  rw [show lit "<" = [60] from rfl, show lit ">" = [62] from rfl, show lit "&" = [38] from rfl, replace_one, replace_one, replace_one, flat_flat, flat_flat]
  refine flat_congr fun x _ => ?_
  unfold code3
  by_cases h1 : x = 38
  · subst h1; decide
  · by_cases h2 : x = 62
    · subst h2; decide
    · by_cases h3 : x = 60
      · subst h3; decide
      · simp [h1, h2, h3]
noncomputable def whites : List (List Nat × List Nat) := [(lit "\n", lit "&#10;"), (lit "\r", lit "&#13;"), (lit "\t", lit "&#9;")]
theorem E6_code (l : List Nat) : EE whites l = l.flatMap code6 := by
  show replace (lit "\t") (lit "&#9;") (replace (lit "\r") (lit "&#13;") (replace (lit "\n") (lit "&#10;") (E3 l))) = _
  rw [E3_code, show lit "\t" = [9] from rfl, show lit "\r" = [13] from rfl, show lit "\n" = [10] from rfl, replace_one, replace_one, replace_one, flat_flat, flat_flat, flat_flat]
  refine flat_congr fun x _ => ?_
  unfold code6 code3
  by_cases h4 : x = 10
  · subst h4; decide
  · by_cases h5 : x = 13
    · subst h5; decide
    · by_cases h6 : x = 9
      · subst h6; decide
      · by_cases h1 : x = 38
        · subst h1; decide
        · by_cases h2 : x = 62
          · subst h2; decide
          · by_cases h3 : x = 60
            · subst h3; decide
            · simp [h1, h2, h3, h4, h5, h6]
theorem E7_code (l : List Nat) : replace (lit "\"") (lit "&quot;") (l.flatMap code6) = l.flatMap code7 := by
  rw [show lit "\"" = [34] from rfl, replace_one, flat_flat]
  refine flat_congr fun x _ => ?_
  unfold code7 code6 code3
  by_cases h0 : x = 34
  · subst h0; decide
  · by_cases h4 : x = 10
    · subst h4; decide
    · by_cases h5 : x = 13
      · subst h5; decide
      · by_cases h6 : x = 9
        · subst h6; decide
        · by_cases h1 : x = 38
          · subst h1; decide
          · by_cases h2 : x = 62
            · subst h2; decide
            · by_cases h3 : x = 60
              · subst h3; decide
              · simp [h0, h1, h2, h3, h4, h5, h6]

/-! unescape undoes a code -/
noncomputable def codeS (code : Nat → List Nat) (S : List (List Nat)) (x : Nat) : List Nat := if code x ∈ S then [x] else code x
theorem U_step {code : Nat → List Nat} {S : List (List Nat)} {y z l : List Nat} (hy : isWord y) (hamp : amp ∉ S) (h38 : ∀ x, x = 38 → code x = amp) (hok : ∀ x, okCode (code x)) (hz : ∀ x, code x = y → z = [x]) :
    replace y z (l.flatMap (codeS code S)) = l.flatMap (codeS code (y :: S)) := by
  rw [replace_code hy]
  · refine flat_congr fun x _ => ?_
    unfold codeS
    have y1 : [x] ≠ y := by obtain ⟨u, hu, _⟩ := hy; rw [hu]; simp
    by_cases hS : code x ∈ S
    · rw [if_pos hS, if_neg y1, if_pos (.tail _ hS)]
    · rw [if_neg hS]
      by_cases e : code x = y
      · rw [if_pos e, if_pos (e ▸ .head _), hz x e]
      · rw [if_neg e, if_neg (by rw [List.mem_cons, not_or]; exact ⟨e, hS⟩)]
  · intro x _
    unfold codeS
    by_cases hS : code x ∈ S
    · rw [if_pos hS]
      exact .inr ⟨x, rfl, fun e => hamp (h38 x e ▸ hS)⟩
    · rw [if_neg hS]; exact hok x
theorem U_fold {code : Nat → List Nat} {l : List Nat} (h38 : ∀ x, x = 38 → code x = amp) (hok : ∀ x, okCode (code x)) : ∀ (ps : List (List Nat × List Nat)) (S : List (List Nat)), amp ∉ S → (∀ p ∈ ps, isWord p.1 ∧ p.1 ≠ amp ∧ ∀ x, code x = p.1 → p.2 = [x]) →
    ps.foldl (fun l e => replace e.1 e.2 l) (l.flatMap (codeS code S)) = l.flatMap (codeS code ((ps.map (·.1)).reverse ++ S)) ∧ amp ∉ (ps.map (·.1)).reverse ++ S
  | [], S, h, _ => ⟨rfl, h⟩
  | p :: ps, S, h, hp => by
    obtain ⟨h1, h2, h3⟩ := hp p (.head _)
    have hS : amp ∉ p.1 :: S := by rw [List.mem_cons, not_or]; exact ⟨Ne.symm h2, h⟩
    have ih := U_fold (l := l) h38 hok ps (p.1 :: S) hS fun q hq => hp q (.tail _ hq)
    rw [List.foldl_cons, U_step h1 h h38 hok h3]
    simpa using ih
theorem UU_code {code : Nat → List Nat} {es : List (List Nat × List Nat)} (l : List Nat) (h38 : ∀ x, x = 38 → code x = amp) (hok : ∀ x, okCode (code x)) (ha : ∀ x, code x = amp → x = 38)
    (hp : ∀ p ∈ (lit "&lt;", lit "<") :: (lit "&gt;", lit ">") :: es, isWord p.1 ∧ p.1 ≠ amp ∧ ∀ x, code x = p.1 → p.2 = [x])
    (hall : ∀ x ∈ l, code x = [x] ∨ code x = amp ∨ code x ∈ ((lit "&lt;", lit "<") :: (lit "&gt;", lit ">") :: es).map (·.1)) : UU es (l.flatMap code) = l := by
  have h0 : l.flatMap code = l.flatMap (codeS code []) := flat_congr fun x _ => by unfold codeS; rw [if_neg (by simp)]
  obtain ⟨h1, h2⟩ := U_fold (l := l) h38 hok _ [] (by simp) hp
  show replace (lit "&amp;") (lit "&") (((lit "&lt;", lit "<") :: (lit "&gt;", lit ">") :: es).foldl (fun l e => replace e.1 e.2 l) (l.flatMap code)) = l
  rw [h0, h1, show lit "&amp;" = amp from rfl, U_step ⟨[97, 109, 112], by decide, by decide, by decide⟩ h2 h38 hok (fun x e => by rw [ha x e]; decide)]
  refine (flat_congr fun x hx => ?_).trans (flat_one l)
  unfold codeS
  rcases hall x hx with e | e | e
  · rw [e]; split <;> rfl
  · rw [if_pos (e ▸ .head _)]
  · rw [if_pos (List.mem_cons_of_mem _ (by rw [List.append_nil, List.mem_reverse]; exact e))]
end Mine

end

section
open PySem
namespace Mine

theorem w_amp : isWord (lit "&amp;") := ⟨[97, 109, 112], by decide, by decide, by decide⟩
theorem w_lt : isWord (lit "&lt;") := ⟨[108, 116], by decide, by decide, by decide⟩
theorem w_gt : isWord (lit "&gt;") := ⟨[103, 116], by decide, by decide, by decide⟩
theorem w_quot : isWord (lit "&quot;") := ⟨[113, 117, 111, 116], by decide, by decide, by decide⟩
theorem w_10 : isWord (lit "&#10;") := ⟨[35, 49, 48], by decide, by decide, by decide⟩
theorem w_13 : isWord (lit "&#13;") := ⟨[35, 49, 51], by decide, by decide, by decide⟩
theorem w_9 : isWord (lit "&#9;") := ⟨[35, 57], by decide, by decide, by decide⟩

theorem cases7 {P : Nat → Prop} (a : P 34) (b : P 10) (c : P 13) (d : P 9) (e : P 38) (f : P 62) (g : P 60) (o : ∀ x, x ≠ 34 → x ≠ 10 → x ≠ 13 → x ≠ 9 → x ≠ 38 → x ≠ 62 → x ≠ 60 → P x) (x : Nat) : P x := by
  by_cases h1 : x = 34
  · exact h1 ▸ a
  by_cases h2 : x = 10
  · exact h2 ▸ b
  by_cases h3 : x = 13
  · exact h3 ▸ c
  by_cases h4 : x = 9
  · exact h4 ▸ d
  by_cases h5 : x = 38
  · exact h5 ▸ e
  by_cases h6 : x = 62
  · exact h6 ▸ f
  by_cases h7 : x = 60
  · exact h7 ▸ g
  exact o x h1 h2 h3 h4 h5 h6 h7

theorem ok3 (x : Nat) : okCode (code3 x) := by
  refine cases7 (P := fun x => okCode (code3 x)) (.inr ⟨34, rfl, by decide⟩) (.inr ⟨10, rfl, by decide⟩) (.inr ⟨13, rfl, by decide⟩) (.inr ⟨9, rfl, by decide⟩) (.inl w_amp) (.inl w_gt) (.inl w_lt) (fun x _ _ _ _ h5 h6 h7 => .inr ⟨x, by simp [code3, h5, h6, h7], h5⟩) x
theorem ok6 (x : Nat) : okCode (code6 x) := by
  refine cases7 (P := fun x => okCode (code6 x)) (.inr ⟨34, rfl, by decide⟩) (.inl w_10) (.inl w_13) (.inl w_9) (.inl w_amp) (.inl w_gt) (.inl w_lt) (fun x h1 h2 h3 h4 h5 h6 h7 => .inr ⟨x, by simp [code6, code3, h2, h3, h4, h5, h6, h7], h5⟩) x
theorem ok7 (x : Nat) : okCode (code7 x) := by
  refine cases7 (P := fun x => okCode (code7 x)) (.inl w_quot) (.inl w_10) (.inl w_13) (.inl w_9) (.inl w_amp) (.inl w_gt) (.inl w_lt) (fun x h1 h2 h3 h4 h5 h6 h7 => .inr ⟨x, by simp [code7, code6, code3, h1, h2, h3, h4, h5, h6, h7], h5⟩) x

theorem one3 {x : Nat} (h5 : x ≠ 38) (h6 : x ≠ 62) (h7 : x ≠ 60) : code3 x = [x] := by simp [code3, h5, h6, h7]
theorem one6 {x : Nat} (h2 : x ≠ 10) (h3 : x ≠ 13) (h4 : x ≠ 9) (h5 : x ≠ 38) (h6 : x ≠ 62) (h7 : x ≠ 60) : code6 x = [x] := by simp [code6, code3, h2, h3, h4, h5, h6, h7]
theorem one7 {x : Nat} (h1 : x ≠ 34) (h2 : x ≠ 10) (h3 : x ≠ 13) (h4 : x ≠ 9) (h5 : x ≠ 38) (h6 : x ≠ 62) (h7 : x ≠ 60) : code7 x = [x] := by simp [code7, code6, code3, h1, h2, h3, h4, h5, h6, h7]
theorem no_one {x : Nat} {w : List Nat} (h : isWord w) (e : [x] = w) : False := by
  obtain ⟨u, hu, _⟩ := h
  rw [hu] at e
  simp at e
/-- a word comes from its sign alone -/
theorem inv3 {w z : List Nat} (hw : isWord w) (h : ∀ x ∈ [34, 10, 13, 9, 38, 62, 60], code3 x = w → z = [x]) (x : Nat) : code3 x = w → z = [x] :=
  cases7 (P := fun x => code3 x = w → z = [x]) (h 34 (by decide)) (h 10 (by decide)) (h 13 (by decide)) (h 9 (by decide)) (h 38 (by decide)) (h 62 (by decide)) (h 60 (by decide)) (fun x _ _ _ _ h5 h6 h7 e => (no_one hw ((one3 h5 h6 h7).symm.trans e)).elim) x
theorem inv6 {w z : List Nat} (hw : isWord w) (h : ∀ x ∈ [34, 10, 13, 9, 38, 62, 60], code6 x = w → z = [x]) (x : Nat) : code6 x = w → z = [x] :=
  cases7 (P := fun x => code6 x = w → z = [x]) (h 34 (by decide)) (h 10 (by decide)) (h 13 (by decide)) (h 9 (by decide)) (h 38 (by decide)) (h 62 (by decide)) (h 60 (by decide)) (fun x h1 h2 h3 h4 h5 h6 h7 e => (no_one hw ((one6 h2 h3 h4 h5 h6 h7).symm.trans e)).elim) x
theorem inv7 {w z : List Nat} (hw : isWord w) (h : ∀ x ∈ [34, 10, 13, 9, 38, 62, 60], code7 x = w → z = [x]) (x : Nat) : code7 x = w → z = [x] :=
  cases7 (P := fun x => code7 x = w → z = [x]) (h 34 (by decide)) (h 10 (by decide)) (h 13 (by decide)) (h 9 (by decide)) (h 38 (by decide)) (h 62 (by decide)) (h 60 (by decide)) (fun x h1 h2 h3 h4 h5 h6 h7 e => (no_one hw ((one7 h1 h2 h3 h4 h5 h6 h7).symm.trans e)).elim) x

theorem inj1 {a b : Nat} (h : [a] = [b]) : b = a := by simpa using h.symm
theorem U3 (l : List Nat) : UU [] (l.flatMap code3) = l := by
  refine UU_code l (by rintro x rfl; rfl) ok3 (fun x e => inj1 (inv3 (z := [38]) w_amp (by decide) x e)) ?_ ?_
  · intro p hp
    simp only [List.mem_cons, List.not_mem_nil, or_false] at hp
    rcases hp with rfl | rfl
    · exact ⟨w_lt, by decide, inv3 w_lt (by decide)⟩
    · exact ⟨w_gt, by decide, inv3 w_gt (by decide)⟩
  · exact fun x _ => cases7 (P := fun x => code3 x = [x] ∨ code3 x = amp ∨ code3 x ∈ ((lit "&lt;", lit "<") :: (lit "&gt;", lit ">") :: []).map (·.1)) (by decide) (by decide) (by decide) (by decide) (by decide) (by decide) (by decide) (fun x _ _ _ _ h5 h6 h7 => .inl (one3 h5 h6 h7)) x
noncomputable def tab4 : List (List Nat × List Nat) := [(lit "&quot;", lit "\""), (lit "&#10;", lit "\n"), (lit "&#13;", lit "\r"), (lit "&#9;", lit "\t")]
theorem U6 (l : List Nat) : UU tab4 (l.flatMap code6) = l := by
  refine UU_code l (by rintro x rfl; rfl) ok6 (fun x e => inj1 (inv6 (z := [38]) w_amp (by decide) x e)) ?_ ?_
  · intro p hp
    simp only [tab4, List.mem_cons, List.not_mem_nil, or_false] at hp
    rcases hp with rfl | rfl | rfl | rfl | rfl | rfl
    · exact ⟨w_lt, by decide, inv6 w_lt (by decide)⟩
    · exact ⟨w_gt, by decide, inv6 w_gt (by decide)⟩
    · exact ⟨w_quot, by decide, inv6 w_quot (by decide)⟩
    · exact ⟨w_10, by decide, inv6 w_10 (by decide)⟩
    · exact ⟨w_13, by decide, inv6 w_13 (by decide)⟩
    · exact ⟨w_9, by decide, inv6 w_9 (by decide)⟩
  · exact fun x _ => cases7 (P := fun x => code6 x = [x] ∨ code6 x = amp ∨ code6 x ∈ ((lit "&lt;", lit "<") :: (lit "&gt;", lit ">") :: tab4).map (·.1)) (by decide) (by decide) (by decide) (by decide) (by decide) (by decide) (by decide) (fun x h1 h2 h3 h4 h5 h6 h7 => .inl (one6 h2 h3 h4 h5 h6 h7)) x
theorem U7 (l : List Nat) : UU tab4 (l.flatMap code7) = l := by
  refine UU_code l (by rintro x rfl; rfl) ok7 (fun x e => inj1 (inv7 (z := [38]) w_amp (by decide) x e)) ?_ ?_
  · intro p hp
    simp only [tab4, List.mem_cons, List.not_mem_nil, or_false] at hp
    rcases hp with rfl | rfl | rfl | rfl | rfl | rfl
    · exact ⟨w_lt, by decide, inv7 w_lt (by decide)⟩
    · exact ⟨w_gt, by decide, inv7 w_gt (by decide)⟩
    · exact ⟨w_quot, by decide, inv7 w_quot (by decide)⟩
    · exact ⟨w_10, by decide, inv7 w_10 (by decide)⟩
    · exact ⟨w_13, by decide, inv7 w_13 (by decide)⟩
    · exact ⟨w_9, by decide, inv7 w_9 (by decide)⟩
  · exact fun x _ => cases7 (P := fun x => code7 x = [x] ∨ code7 x = amp ∨ code7 x ∈ ((lit "&lt;", lit "<") :: (lit "&gt;", lit ">") :: tab4).map (·.1)) (by decide) (by decide) (by decide) (by decide) (by decide) (by decide) (by decide) (fun x h1 h2 h3 h4 h5 h6 h7 => .inl (one7 h1 h2 h3 h4 h5 h6 h7)) x

noncomputable def W3 (l : List Nat) : List Nat :=
  if 34 ∈ EE whites l then (if 39 ∈ EE whites l then 34 :: (replace (lit "\"") (lit "&quot;") (EE whites l) ++ [34]) else 39 :: (EE whites l ++ [39])) else 34 :: (EE whites l ++ [34])
theorem mem6 {c : Nat} (hc : c = 34 ∨ c = 39) {l : List Nat} : c ∈ l.flatMap code6 ↔ c ∈ l := by
  rw [List.mem_flatMap]
  have key : ∀ x, c ∈ code6 x → x = c := by
    intro x
    rcases hc with rfl | rfl
    · exact cases7 (P := fun x => 34 ∈ code6 x → x = 34) (by decide) (by decide) (by decide) (by decide) (by decide) (by decide) (by decide) (fun x h1 h2 h3 h4 h5 h6 h7 h => by rw [one6 h2 h3 h4 h5 h6 h7] at h; exact (List.mem_singleton.mp h).symm) x
    · exact cases7 (P := fun x => 39 ∈ code6 x → x = 39) (by decide) (by decide) (by decide) (by decide) (by decide) (by decide) (by decide) (fun x h1 h2 h3 h4 h5 h6 h7 h => by rw [one6 h2 h3 h4 h5 h6 h7] at h; exact (List.mem_singleton.mp h).symm) x
  constructor
  · rintro ⟨x, hx, h⟩
    exact key x h ▸ hx
  · intro h
    exact ⟨c, h, by rcases hc with rfl | rfl <;> decide⟩
theorem flat67 {l : List Nat} (h : 34 ∉ l) : l.flatMap code6 = l.flatMap code7 := flat_congr fun x hx => by
  unfold code7
  rw [if_neg (fun e : x = 34 => h (e ▸ hx))]
theorem W3_eq (l : List Nat) : W3 l = if 34 ∈ l ∧ 39 ∉ l then 39 :: (l.flatMap code6 ++ [39]) else 34 :: (l.flatMap code7 ++ [34]) := by
  unfold W3
  rw [E6_code]
  simp only [mem6 (.inl rfl), mem6 (.inr rfl)]
  by_cases h1 : 34 ∈ l
  · by_cases h2 : 39 ∈ l
    · rw [if_pos h1, if_pos h2, if_neg (by simp [h2]), E7_code]
    · rw [if_pos h1, if_neg h2, if_pos ⟨h1, h2⟩]
  · rw [if_neg h1, if_neg (by simp [h1]), flat67 h1]

/-- a code has no sign c -/
theorem code_free {code : Nat → List Nat} {c : Nat} (h : ∀ x, c ∉ code x) (l : List Nat) : c ∉ l.flatMap code := by
  rw [List.mem_flatMap]
  rintro ⟨x, _, hx⟩
  exact h x hx
theorem free3 {c : Nat} (hc : c = 60 ∨ c = 62) (x : Nat) : c ∉ code3 x := by
  rcases hc with rfl | rfl
  · exact cases7 (P := fun x => 60 ∉ code3 x) (by decide) (by decide) (by decide) (by decide) (by decide) (by decide) (by decide) (fun x _ _ _ _ h5 h6 h7 => by rw [one3 h5 h6 h7]; simpa using Ne.symm h7) x
  · exact cases7 (P := fun x => 62 ∉ code3 x) (by decide) (by decide) (by decide) (by decide) (by decide) (by decide) (by decide) (fun x _ _ _ _ h5 h6 h7 => by rw [one3 h5 h6 h7]; simpa using Ne.symm h6) x
theorem free6 {c : Nat} (hc : c = 60 ∨ c = 62) (x : Nat) : c ∉ code6 x := by
  rcases hc with rfl | rfl
  · exact cases7 (P := fun x => 60 ∉ code6 x) (by decide) (by decide) (by decide) (by decide) (by decide) (by decide) (by decide) (fun x _ h2 h3 h4 h5 h6 h7 => by rw [one6 h2 h3 h4 h5 h6 h7]; simpa using Ne.symm h7) x
  · exact cases7 (P := fun x => 62 ∉ code6 x) (by decide) (by decide) (by decide) (by decide) (by decide) (by decide) (by decide) (fun x _ h2 h3 h4 h5 h6 h7 => by rw [one6 h2 h3 h4 h5 h6 h7]; simpa using Ne.symm h6) x
theorem free7 {c : Nat} (hc : c = 60 ∨ c = 62 ∨ c = 34) (x : Nat) : c ∉ code7 x := by
  rcases hc with rfl | rfl | rfl
  · exact cases7 (P := fun x => 60 ∉ code7 x) (by decide) (by decide) (by decide) (by decide) (by decide) (by decide) (by decide) (fun x h1 h2 h3 h4 h5 h6 h7 => by rw [one7 h1 h2 h3 h4 h5 h6 h7]; simpa using Ne.symm h7) x
  · exact cases7 (P := fun x => 62 ∉ code7 x) (by decide) (by decide) (by decide) (by decide) (by decide) (by decide) (by decide) (fun x h1 h2 h3 h4 h5 h6 h7 => by rw [one7 h1 h2 h3 h4 h5 h6 h7]; simpa using Ne.symm h6) x
  · exact cases7 (P := fun x => 34 ∉ code7 x) (by decide) (by decide) (by decide) (by decide) (by decide) (by decide) (by decide) (fun x h1 h2 h3 h4 h5 h6 h7 => by rw [one7 h1 h2 h3 h4 h5 h6 h7]; simpa using Ne.symm h1) x
theorem E3_free {c : Nat} (hc : c = 60 ∨ c = 62) (l : List Nat) : c ∉ E3 l := by rw [E3_code]; exact code_free (free3 hc) l
theorem flat_len {f : Nat → List Nat} {k : Nat} (hf : ∀ x, (f x).length ≤ k) (l : List Nat) : (l.flatMap f).length ≤ k * l.length := by
  induction l with
  | nil => simp
  | cons x r ih => rw [List.flatMap_cons, List.length_append, List.length_cons, Nat.mul_succ]; have := hf x; omega
theorem flat_ge {f : Nat → List Nat} (hf : ∀ x, 1 ≤ (f x).length) (l : List Nat) : l.length ≤ (l.flatMap f).length := by
  induction l with
  | nil => simp
  | cons x r ih => rw [List.flatMap_cons, List.length_append, List.length_cons]; have := hf x; omega
theorem len3 (x : Nat) : (code3 x).length ≤ 5 ∧ 1 ≤ (code3 x).length := cases7 (P := fun x => (code3 x).length ≤ 5 ∧ 1 ≤ (code3 x).length) (by decide) (by decide) (by decide) (by decide) (by decide) (by decide) (by decide) (fun x _ _ _ _ h5 h6 h7 => by rw [one3 h5 h6 h7]; simp) x
theorem len6 (x : Nat) : (code6 x).length ≤ 5 := cases7 (P := fun x => (code6 x).length ≤ 5) (by decide) (by decide) (by decide) (by decide) (by decide) (by decide) (by decide) (fun x _ h2 h3 h4 h5 h6 h7 => by rw [one6 h2 h3 h4 h5 h6 h7]; simp) x
theorem len7 (x : Nat) : (code7 x).length ≤ 6 := cases7 (P := fun x => (code7 x).length ≤ 6) (by decide) (by decide) (by decide) (by decide) (by decide) (by decide) (by decide) (fun x h1 h2 h3 h4 h5 h6 h7 => by rw [one7 h1 h2 h3 h4 h5 h6 h7]; simp) x
theorem E3_len (l : List Nat) : (E3 l).length ≤ 5 * l.length := by rw [E3_code]; exact flat_len (fun x => (len3 x).1) l
theorem E3_ge (l : List Nat) : l.length ≤ (E3 l).length := by rw [E3_code]; exact flat_ge (fun x => (len3 x).2) l
/-- what quoteattr writes: a quote, a body without it, the quote -/
theorem W3_form (l : List Nat) : ∃ q b, (q = 34 ∨ q = 39) ∧ W3 l = q :: (b ++ [q]) ∧ q ∉ b ∧ 60 ∉ b ∧ 62 ∉ b ∧ UU tab4 b = l ∧ b.length ≤ 6 * l.length := by
  rw [W3_eq]
  by_cases hc : 34 ∈ l ∧ 39 ∉ l
  · rw [if_pos hc]
    exact ⟨39, _, .inr rfl, rfl, fun h => hc.2 ((mem6 (.inr rfl)).mp h), code_free (free6 (.inl rfl)) l, code_free (free6 (.inr rfl)) l, U6 l, by have := flat_len len6 l; omega⟩
  · rw [if_neg hc]
    exact ⟨34, _, .inl rfl, rfl, code_free (free7 (.inr (.inr rfl))) l, code_free (free7 (.inl rfl)) l, code_free (free7 (.inr (.inl rfl))) l, U7 l, flat_len len7 l⟩
theorem U3E (l : List Nat) : UU [] (E3 l) = l := by rw [E3_code, U3]
end Mine

end

section
open PySem
namespace Mine
set_option genInjectivity false
set_option genSizeOfSpec false

/-- documents: items one behind the other, and an element's values one behind the other -/
inductive D where
  | nil
  | txt (l : List Nat) (r : D)
  | el (n : Nat) (vs ins r : D)
  | val (k : Nat) (d r : D)
namespace D
noncomputable def wr : D → List Nat
  | nil => []
  | txt l r => E3 l ++ wr r
  | el n vs ins r => [60, n] ++ wr vs ++ [62] ++ wr ins ++ [60, 47, n, 62] ++ wr r
  | val k d r => [32, k, 61] ++ W3 (wr d) ++ wr r
noncomputable def app : D → D → D
  | nil, e => e
  | txt l r, e => txt l (app r e)
  | el n vs ins r, e => el n vs ins (app r e)
  | val k d r, e => val k d (app r e)
/-- 0: items; 1: items behind a text; 2: values -/
noncomputable def Ok : Nat → D → Prop
  | _, nil => True
  | m, txt l r => m = 0 ∧ l ≠ [] ∧ Ok 1 r
  | m, el n vs ins r => m ≠ 2 ∧ (n = 97 ∨ n = 98 ∨ n = 99) ∧ Ok 2 vs ∧ Ok 0 ins ∧ Ok 0 r
  | m, val k d r => m = 2 ∧ (k = 112 ∨ k = 113) ∧ Ok 0 d ∧ Ok 2 r
/-- documents stand in one another no deeper than this -/
noncomputable def Dp : Nat → D → Prop
  | _, nil => True
  | k, txt _ r => Dp k r
  | k, el _ vs ins r => (∃ j, k = j + 2 ∧ Dp (j + 1) vs ∧ Dp j ins) ∧ Dp k r
  | k, val _ d r => (∃ j, k = j + 1 ∧ Dp j d) ∧ Dp k r
/-- documents stand in values no deeper than this -/
noncomputable def Dv : Nat → D → Prop
  | _, nil => True
  | k, txt _ r => Dv k r
  | k, el _ vs ins r => Dv k vs ∧ (ins = nil ∨ ∃ j, k = j + 1 ∧ Dv j ins) ∧ Dv k r
  | k, val _ d r => (d = nil ∨ ∃ j, k = j + 1 ∧ Dv j d) ∧ Dv k r
noncomputable def cost : D → Nat
  | nil => 0
  | txt l r => 5 * l.length + cost r
  | el _ vs ins r => 7 + cost vs + cost ins + cost r
  | val _ d r => 5 + cost d + cost r
noncomputable def outer : D → Nat
  | nil => 0
  | txt _ r => outer r
  | el _ _ ins r => 1 + outer ins + outer r
  | val _ _ r => outer r
/-- vs, in the heap h between lo and hi, is the document -/
noncomputable def Rp (h : Hp) (lo hi : Nat) : D → List V → Prop
  | nil, vs => vs = []
  | txt l r, vs => ∃ w, vs = .str l :: w ∧ Rp h lo hi r w
  | el n a b r, vs => ∃ k i j va vb w, vs = .ref k :: w ∧ (lo ≤ k ∧ k < hi) ∧ (lo ≤ i ∧ i < hi) ∧ (lo ≤ j ∧ j < hi) ∧ h[k]? = some (.tup [.str [n], .ref i, .ref j]) ∧ h[i]? = some (.list va) ∧ h[j]? = some (.list vb) ∧ Rp h lo hi a va ∧ Rp h lo hi b vb ∧ Rp h lo hi r w
  | val n a r, vs => ∃ k i va w, vs = .ref k :: w ∧ (lo ≤ k ∧ k < hi) ∧ (lo ≤ i ∧ i < hi) ∧ h[k]? = some (.tup [.str [n], .ref i]) ∧ h[i]? = some (.list va) ∧ Rp h lo hi a va ∧ Rp h lo hi r w

theorem Rp.mono {h h' : Hp} {lo hi lo' hi' : Nat} (hl : lo' ≤ lo) (hh : hi ≤ hi') (hk : ∀ k, lo ≤ k → k < hi → h'[k]? = h[k]?) {d : D} : ∀ {vs : List V}, Rp h lo hi d vs → Rp h' lo' hi' d vs := by
  have up : ∀ {k : Nat}, lo ≤ k ∧ k < hi → lo' ≤ k ∧ k < hi' := fun b => ⟨Nat.le_trans hl b.1, Nat.lt_of_lt_of_le b.2 hh⟩
  induction d with
  | nil => exact fun r => r
  | txt l r ih =>
    intro vs q
    obtain ⟨w, e, q⟩ := q
    exact ⟨w, e, ih q⟩
  | el n a b r iha ihb ihr =>
    intro vs q
    obtain ⟨k, i, j, va, vb, w, e, bk, bi, bj, e1, e2, e3, r1, r2, r3⟩ := q
    exact ⟨k, i, j, va, vb, w, e, up bk, up bi, up bj, (hk k bk.1 bk.2).trans e1, (hk i bi.1 bi.2).trans e2, (hk j bj.1 bj.2).trans e3, iha r1, ihb r2, ihr r3⟩
  | val c a r iha ihr =>
    intro vs q
    obtain ⟨k, i, va, w, e, bk, bi, e1, e2, r1, r2⟩ := q
    exact ⟨k, i, va, w, e, up bk, up bi, (hk k bk.1 bk.2).trans e1, (hk i bi.1 bi.2).trans e2, iha r1, ihr r2⟩
theorem Rp.app {h : Hp} {lo hi : Nat} {e : D} {ws : List V} (r' : Rp h lo hi e ws) {d : D} : ∀ {vs : List V}, Rp h lo hi d vs → Rp h lo hi (d.app e) (vs ++ ws) := by
  induction d with
  | nil => intro vs r; cases r; exact r'
  | txt l r ih =>
    intro vs q
    obtain ⟨w, e, q⟩ := q
    exact ⟨w ++ ws, by rw [e]; rfl, ih q⟩
  | el n a b r iha ihb ihr =>
    intro vs q
    obtain ⟨k, i, j, va, vb, w, e, bk, bi, bj, e1, e2, e3, r1, r2, r3⟩ := q
    exact ⟨k, i, j, va, vb, w ++ ws, by rw [e]; rfl, bk, bi, bj, e1, e2, e3, r1, r2, ihr r3⟩
  | val c a r iha ihr =>
    intro vs q
    obtain ⟨k, i, va, w, e, bk, bi, e1, e2, r1, r2⟩ := q
    exact ⟨k, i, va, w ++ ws, by rw [e]; rfl, bk, bi, e1, e2, r1, ihr r2⟩
theorem app_assoc (b c : D) : ∀ a : D, (a.app b).app c = a.app (b.app c)
  | nil => rfl
  | txt _ r => congrArg (txt _) (app_assoc b c r)
  | el _ _ _ r => congrArg (el _ _ _) (app_assoc b c r)
  | val _ _ r => congrArg (val _ _) (app_assoc b c r)
theorem app_nil : ∀ a : D, a.app nil = a
  | nil => rfl
  | txt _ r => congrArg (txt _) (app_nil r)
  | el _ _ _ r => congrArg (el _ _ _) (app_nil r)
  | val _ _ r => congrArg (val _ _) (app_nil r)
theorem Dp.app {b : D} {k : Nat} (hb : Dp k b) {a : D} : Dp k a → Dp k (a.app b) := by
  induction a with
  | nil => exact fun _ => hb
  | txt l r ih => exact ih
  | el _ _ _ _ _ _ ih => exact fun h => ⟨h.1, ih h.2⟩
  | val _ _ _ _ ih => exact fun h => ⟨h.1, ih h.2⟩
theorem Dv.app {b : D} {k : Nat} (hb : Dv k b) {a : D} : Dv k a → Dv k (a.app b) := by
  induction a with
  | nil => exact fun _ => hb
  | txt l r ih => exact ih
  | el _ _ _ _ _ _ ih => exact fun h => ⟨h.1, h.2.1, ih h.2.2⟩
  | val _ _ _ _ ih => exact fun h => ⟨h.1, ih h.2⟩
theorem cost_app (b : D) (a : D) : (a.app b).cost = a.cost + b.cost := by
  induction a with
  | nil => exact (Nat.zero_add _).symm
  | txt l r ih => exact (congrArg (5 * l.length + ·) ih).trans (Nat.add_assoc _ _ _).symm
  | el _ x y _ _ _ ih => exact (congrArg (7 + x.cost + y.cost + ·) ih).trans (Nat.add_assoc _ _ _).symm
  | val _ x _ _ ih => exact (congrArg (5 + x.cost + ·) ih).trans (Nat.add_assoc _ _ _).symm

/-- an element behind items -/
theorem Ok.el_end {n : Nat} {a b : D} (hn : n = 97 ∨ n = 98 ∨ n = 99) (ha : Ok 2 a) (hb : Ok 0 b) {d : D} : ∀ {m : Nat}, m ≠ 2 → Ok m d → Ok m (d.app (el n a b nil)) := by
  induction d with
  | nil => exact fun hm _ => ⟨hm, hn, ha, hb, trivial⟩
  | txt l r ih => exact fun hm h => ⟨h.1, h.2.1, ih (by decide) h.2.2⟩
  | el _ _ _ _ _ _ ih => exact fun hm h => ⟨h.1, h.2.1, h.2.2.1, h.2.2.2.1, ih (by decide) h.2.2.2.2⟩
  | val _ _ _ _ ih => exact fun hm h => absurd h.1 hm
theorem Ok.val_end {k : Nat} {a : D} (hk : k = 112 ∨ k = 113) (ha : Ok 0 a) {d : D} : Ok 2 d → Ok 2 (d.app (val k a nil)) := by
  induction d with
  | nil => exact fun _ => ⟨rfl, hk, ha, trivial⟩
  | txt l r ih => exact fun h => absurd h.1 (by decide)
  | el _ _ _ _ _ _ ih => exact fun h => absurd rfl h.1
  | val _ _ _ _ ih => exact fun h => ⟨rfl, h.2.1, h.2.2.1, ih h.2.2.2⟩
/-- the last item is no text -/
noncomputable def NoTxt (vs : List V) : Prop := ∀ l, vs.getLast? ≠ some (.str l)
theorem NoTxt.tail {v : V} {vs : List V} (h : NoTxt (v :: vs)) : vs = [] ∨ NoTxt vs := by
  cases vs with
  | nil => exact .inl rfl
  | cons w r => exact .inr fun l e => h l (by rw [List.getLast?_cons_cons]; exact e)
/-- a text behind items of which the last is no text -/
theorem Ok.txt_end {h : Hp} {lo hi : Nat} {t : List Nat} (ht : t ≠ []) {d : D} : ∀ {m : Nat} {vs : List V}, m ≠ 2 → (vs = [] → m = 0) → (vs = [] ∨ NoTxt vs) → Rp h lo hi d vs → Ok m d → Ok m (d.app (txt t nil)) := by
  induction d with
  | nil => exact fun _ h0 _ r _ => ⟨h0 r, ht, trivial⟩
  | txt l r ih =>
    intro m vs hm h0 hl q ok
    obtain ⟨w, rfl, q⟩ := q
    rcases hl with hl | hl
    · cases hl
    · refine ⟨ok.1, ok.2.1, ih (by decide) ?_ hl.tail q ok.2.2⟩
      rintro rfl
      exact absurd rfl (hl l)
  | el n a b r _ _ ih =>
    intro m vs hm h0 hl q ok
    obtain ⟨k, i, j, va, vb, w, rfl, _, _, _, _, _, _, _, _, r3⟩ := q
    rcases hl with hl | hl
    · cases hl
    · exact ⟨ok.1, ok.2.1, ok.2.2.1, ok.2.2.2.1, ih (by decide) (fun _ => rfl) hl.tail r3 ok.2.2.2.2⟩
  | val _ _ _ _ _ => exact fun hm _ _ _ ok => absurd ok.1 hm
theorem head_nil {h : Hp} {lo hi : Nat} {d : D} (r : Rp h lo hi d []) : d = nil := by
  cases d with
  | nil => rfl
  | txt _ _ => obtain ⟨_, e, _⟩ := r; cases e
  | el _ _ _ _ => obtain ⟨_, _, _, _, _, _, e, _⟩ := r; cases e
  | val _ _ _ => obtain ⟨_, _, _, _, e, _⟩ := r; cases e
/-- the last text is made longer -/
theorem longer {h : Hp} {lo hi : Nat} {l t : List Nat} {p q : Nat} {d : D} : ∀ {m : Nat} {vs : List V}, m ≠ 2 → Rp h lo hi d (vs ++ [.str l]) → Ok m d → Dp p d → Dv q d → ∃ d', Rp h lo hi d' (vs ++ [.str (l ++ t)]) ∧ Ok m d' ∧ Dp p d' ∧ Dv q d' ∧ d'.cost = d.cost + 5 * t.length := by
  induction d with
  | nil => intro m vs _ r; cases vs <;> cases r
  | txt l' r ih =>
    intro m vs hm ⟨w, e, q⟩ ok dp dv
    cases vs with
    | nil =>
      cases e
      obtain rfl := head_nil q
      exact ⟨txt (l ++ t) nil, ⟨[], rfl, rfl⟩, ⟨ok.1, by simp [ok.2.1], trivial⟩, trivial, trivial, by show 5 * (l ++ t).length + 0 = _; rw [List.length_append, Nat.mul_add]; rfl⟩
    | cons v vs =>
      cases e
      obtain ⟨d', q1, q2, q3, q4, q5⟩ := ih (by decide) q ok.2.2 dp dv
      exact ⟨txt l' d', ⟨_, rfl, q1⟩, ⟨ok.1, ok.2.1, q2⟩, q3, q4, (congrArg (5 * l'.length + ·) q5).trans (Nat.add_assoc _ _ _).symm⟩
  | el n a b r _ _ ih =>
    intro m vs hm ⟨k, i, j, va, vb, w, e, bk, bi, bj, e1, e2, e3, r1, r2, r3⟩ ok dp dv
    cases vs with
    | nil => cases e
    | cons v vs =>
      cases e
      obtain ⟨d', q1, q2, q3, q4, q5⟩ := ih (by decide) r3 ok.2.2.2.2 dp.2 dv.2.2
      exact ⟨el n a b d', ⟨k, i, j, va, vb, _, rfl, bk, bi, bj, e1, e2, e3, r1, r2, q1⟩, ⟨ok.1, ok.2.1, ok.2.2.1, ok.2.2.2.1, q2⟩, ⟨dp.1, q3⟩, ⟨dv.1, dv.2.1, q4⟩, (congrArg (7 + a.cost + b.cost + ·) q5).trans (Nat.add_assoc _ _ _).symm⟩
  | val _ _ _ _ _ => exact fun hm _ ok => absurd ok.1 hm

/-- the items of a document: texts, and tuples -/
theorem items_are {h : Hp} {lo hi : Nat} {d : D} : ∀ {m : Nat} {vs : List V}, m ≠ 2 → Ok m d → Rp h lo hi d vs → ∀ v ∈ vs, (∃ l, v = .str l ∧ 5 * l.length ≤ d.cost) ∨ ∃ k xs, v = .ref k ∧ h[k]? = some (.tup xs) := by
  have up : ∀ {v : V} {r : D} {c : Nat}, r.cost ≤ c → ((∃ l, v = .str l ∧ 5 * l.length ≤ r.cost) ∨ ∃ k xs, v = .ref k ∧ h[k]? = some (.tup xs)) → ((∃ l, v = .str l ∧ 5 * l.length ≤ c) ∨ ∃ k xs, v = .ref k ∧ h[k]? = some (.tup xs)) := by
    intro v r c hc q
    rcases q with ⟨l, e, q⟩ | q
    · exact .inl ⟨l, e, Nat.le_trans q hc⟩
    · exact .inr q
  induction d with
  | nil => intro m vs _ _ r v hv; cases r; cases hv
  | txt l r ih =>
    intro m vs hm ok q v hv
    obtain ⟨w, rfl, q⟩ := q
    cases hv with
    | head => exact .inl ⟨l, rfl, Nat.le_add_right _ _⟩
    | tail _ hv => exact up (Nat.le_add_left _ _) (ih (by decide) ok.2.2 q v hv)
  | el n a b r _ _ ih =>
    intro m vs hm ok q v hv
    obtain ⟨k, i, j, va, vb, w, rfl, _, _, _, e1, _, _, _, _, r3⟩ := q
    cases hv with
    | head => exact .inr ⟨k, _, rfl, e1⟩
    | tail _ hv => exact up (Nat.le_add_left _ _) (ih (by decide) ok.2.2.2.2 r3 v hv)
  | val _ _ _ _ _ => exact fun hm ok => absurd ok.1 hm

/-! sizes -/
theorem wr_len {d : D} : ∀ {k : Nat}, Dv k d → d.wr.length ≤ 6 ^ k * d.cost := by
  have one : ∀ {k x : Nat}, x ≤ 6 ^ k * x := fun {k x} => Nat.le_mul_of_pos_left _ (Nat.pow_pos (by decide))
  have six : ∀ {k x : Nat}, 6 ^ (k + 1) * x = 6 * (6 ^ k * x) := fun {k x} => by rw [Nat.pow_succ, Nat.mul_comm (6 ^ k) 6, Nat.mul_assoc]
  induction d with
  | nil => exact fun _ => Nat.zero_le _
  | txt l r ih =>
    intro k h
    simp only [D.wr, D.cost, List.length_append, Nat.mul_add]
    exact Nat.add_le_add (Nat.le_trans (E3_len l) one) (ih h)
  | el n a b r iha ihb ihr =>
    intro k ⟨h1, h2, h3⟩
    have i1 := iha h1
    have i3 := ihr h3
    have i2 : b.wr.length ≤ 6 ^ k * b.cost := by
      rcases h2 with rfl | ⟨j, rfl, h⟩
      · exact Nat.zero_le _
      · have := ihb h
        rw [six]
        exact Nat.le_trans this (Nat.le_mul_of_pos_left _ (by decide))
    have i0 : 7 ≤ 6 ^ k * 7 := one
    clear iha ihb ihr h1 h2 h3 one six
    simp only [D.wr, D.cost, List.length_append, Nat.mul_add, List.length_cons, List.length_nil]
    omega
  | val q e r ihe ihr =>
    intro k ⟨h1, h3⟩
    have i3 := ihr h3
    obtain ⟨c, b, _, e1, _, _, _, _, hb⟩ := W3_form e.wr
    have i0 : 5 ≤ 6 ^ k * 5 := one
    have i2 : b.length ≤ 6 ^ k * e.cost := by
      rcases h1 with rfl | ⟨j, rfl, h⟩
      · exact hb
      · have := ihe h
        rw [six]
        exact Nat.le_trans hb (Nat.mul_le_mul_left _ this)
    clear ihe ihr h1 h3 one six hb
    simp only [D.wr, D.cost, e1, List.length_append, Nat.mul_add, List.length_cons, List.length_nil]
    omega

/-! marks -/
noncomputable def nof (c : Nat) (l : List Nat) : Nat := (l.filter (· == c)).length
theorem nof_app (c : Nat) (a b : List Nat) : nof c (a ++ b) = nof c a + nof c b := by simp [nof]
theorem nof_zero {c : Nat} {l : List Nat} (h : c ∉ l) : nof c l = 0 := by
  unfold nof
  rw [List.length_eq_zero_iff, List.filter_eq_nil_iff]
  intro a ha e
  exact h (beq_iff_eq.mp e ▸ ha)
theorem nof_val {c : Nat} (hc : c = 60 ∨ c = 62) {d : D} (h : Ok 2 d) : nof c d.wr = 0 := by
  induction d with
  | nil => rfl
  | txt _ _ _ => exact absurd h.1 (by decide)
  | el _ _ _ _ _ _ _ => exact absurd rfl h.1
  | val k e r _ ih =>
    obtain ⟨q, b, hq, e1, _, f1, f2, _⟩ := W3_form e.wr
    have hb : c ∉ b := by rcases hc with rfl | rfl <;> assumption
    have hw : nof c (W3 e.wr) = 0 := by
      rw [e1]
      refine nof_zero ?_
      simp only [List.mem_cons, List.mem_append, List.not_mem_nil, or_false, not_or]
      rcases hc with rfl | rfl <;> rcases hq with rfl | rfl <;> exact ⟨by decide, hb, by decide⟩
    have hh : nof c [32, k, 61] = 0 := by
      refine nof_zero ?_
      rcases hc with rfl | rfl <;> rcases h.2.1 with rfl | rfl <;> decide
    simp only [D.wr, nof_app, ih h.2.2.2, hw, hh]
theorem nof_wr {c : Nat} (hc : c = 60 ∨ c = 62) {d : D} : ∀ {m : Nat}, m ≠ 2 → Ok m d → nof c d.wr = 2 * d.outer := by
  induction d with
  | nil => exact fun _ _ => rfl
  | txt l r ih =>
    intro m _ h
    have : nof c (E3 l) = 0 := nof_zero (E3_free hc l)
    simp only [D.wr, nof_app, ih (by decide) h.2.2, this, D.outer, Nat.zero_add]
  | el n a b r _ ihb ihr =>
    intro m _ h
    have i1 := nof_val hc h.2.2.1
    have i2 := ihb (by decide) h.2.2.2.1
    have i3 := ihr (by decide) h.2.2.2.2
    have h2 : nof c [60, n] + nof c [62] + nof c [60, 47, n, 62] = 2 := by
      rcases hc with rfl | rfl <;> rcases h.2.1 with rfl | rfl | rfl <;> rfl
    clear ihb ihr h hc
    simp only [D.wr, nof_app, i1, i2, i3, D.outer]
    omega
  | val _ _ _ _ _ => exact fun hm h => absurd h.1 hm

/-- what a reader meets at a document's head, when it is not behind a text -/
theorem wr_head {d : D} (h : Ok 1 d) : d.wr = [] ∨ ∃ r, d.wr = 60 :: r := by
  cases d with
  | nil => exact .inl rfl
  | txt _ _ => exact absurd h.1 (by decide)
  | el n a b r => exact .inr ⟨_, rfl⟩
  | val _ _ _ => exact absurd h.1 (by decide)

/-! deep equality -/
theorem deq_list {X h : Hp} {n i j : Nat} {xs ys : List V} (e1 : h[i]? = some (.list xs)) (e2 : h[j]? = some (.list ys)) (q : alike (deq X h n) xs ys = true) : deq X h (n + 1) (.ref i) (.ref j) = true := by
  simp only [deq, obj, e1, e2]; exact q
theorem deq_tup {X h : Hp} {n i j : Nat} {xs ys : List V} (e1 : h[i]? = some (.tup xs)) (e2 : h[j]? = some (.tup ys)) (q : alike (deq X h n) xs ys = true) : deq X h (n + 1) (.ref i) (.ref j) = true := by
  simp only [deq, obj, e1, e2]; exact q
theorem deq_str {X h : Hp} {n : Nat} {l : List Nat} : deq X h (n + 1) (.str l) (.str l) = true := by show decide (l = l) = true; simp
theorem alike_cons {f : V → V → Bool} {x y : V} {xs ys : List V} (a : f x y = true) (b : alike f xs ys = true) : alike f (x :: xs) (y :: ys) = true := by
  show (f x y && alike f xs ys) = true
  rw [a, b]; rfl
theorem deq_at {X h : Hp} {lo hi lo' hi' : Nat} {d : D} : ∀ {n k : Nat} {vs ws : List V}, Dp k d → 2 * k + 1 ≤ n → Rp h lo hi d vs → Rp h lo' hi' d ws → alike (deq X h n) vs ws = true := by
  induction d with
  | nil => intro n k vs ws _ _ r r'; cases r; cases r'; rfl
  | txt l r ih =>
    intro n k vs ws dp hn q q'
    obtain ⟨w, rfl, q⟩ := q
    obtain ⟨w', rfl, q'⟩ := q'
    cases n with
    | zero => exact absurd hn (Nat.not_succ_le_zero _)
    | succ n => exact alike_cons deq_str (ih dp hn q q')
  | el c a b r iha ihb ihr =>
    intro n k vs ws dp hn q q'
    obtain ⟨k1, i, j, va, vb, w, rfl, _, _, _, e1, e2, e3, r1, r2, r3⟩ := q
    obtain ⟨k1', i', j', va', vb', w', rfl, _, _, _, e1', e2', e3', r1', r2', r3'⟩ := q'
    have ht := fun n hn => ihr (n := n) dp.2 hn r3 r3'
    obtain ⟨⟨k, rfl, da, db⟩, _⟩ := dp
    obtain ⟨n, rfl⟩ : ∃ m, n = m + 3 := ⟨n - 3, by clear iha ihb ihr ht; omega⟩
    have h1 : 2 * (k + 1) + 1 ≤ n + 1 := by clear iha ihb ihr ht; omega
    exact alike_cons (deq_tup e1 e1' (alike_cons deq_str (alike_cons (deq_list e2 e2' (iha da h1 r1 r1')) (alike_cons (deq_list e3 e3' (ihb db (Nat.le_trans (Nat.le_add_right _ 2) h1) r2 r2')) rfl)))) (ht _ hn)
  | val c a r iha ihr =>
    intro n k vs ws dp hn q q'
    obtain ⟨k1, i, va, w, rfl, _, _, e1, e2, r1, r2⟩ := q
    obtain ⟨k1', i', va', w', rfl, _, _, e1', e2', r1', r2'⟩ := q'
    have ht := fun n hn => ihr (n := n) dp.2 hn r2 r2'
    obtain ⟨⟨k, rfl, da⟩, _⟩ := dp
    obtain ⟨n, rfl⟩ : ∃ m, n = m + 3 := ⟨n - 3, by clear iha ihr ht; omega⟩
    exact alike_cons (deq_tup e1 e1' (alike_cons deq_str (alike_cons (deq_list e2 e2' (iha da (by clear iha ihr ht; omega) r1 r1')) rfl))) (ht _ hn)
end D
end Mine

end

section
open PySem
namespace Mine

/-- the guards of a chain of replaces -/
noncomputable def okRep : List (List Nat × List Nat) → List Nat → Prop
  | [], _ => True
  | e :: r, l => e.1 ≠ [] ∧ l.length + (l.length + 1) * e.2.length ≤ LIM ∧ okRep r (replace e.1 e.2 l)
noncomputable def encd (es : List (List Nat × List Nat)) : List (List Nat × V) := es.map fun e => (e.1, V.str e.2)
noncomputable def fold (es : List (List Nat × List Nat)) (l : List Nat) : List Nat := es.foldl (fun l e => replace e.1 e.2 l) l
theorem reps_is {dd : Option V} : ∀ (es : List (List Nat × List Nat)) (l : List Nat) (x y : Option V), okRep es l → ∃ x' y', reps 0 2 3 (encd es) [some (.str l), dd, x, y] = some [some (.str (fold es l)), dd, x', y']
  | [], l, x, y, _ => ⟨x, y, rfl⟩
  | e :: r, l, x, y, ⟨h1, h2, h3⟩ => by
    obtain ⟨x', y', ih⟩ := reps_is r (replace e.1 e.2 l) (some (.str e.1)) (some (.str e.2)) h3
    refine ⟨x', y', ?_⟩
    rw [show fold (e :: r) l = fold r (replace e.1 e.2 l) from rfl, ← ih]
    show reps 0 2 3 ((e.1, V.str e.2) :: encd r) _ = _
    rw [reps]
    show (if e.1 ≠ [] ∧ l.length + (l.length + 1) * e.2.length ≤ LIM then _ else _) = _
    rw [if_pos ⟨h1, h2⟩]
    rfl
theorem fold_append (a b : List (List Nat × List Nat)) (l : List Nat) : fold (a ++ b) l = fold b (fold a l) := List.foldl_append
theorem okRep_append {b : List (List Nat × List Nat)} : ∀ {a : List (List Nat × List Nat)} {l : List Nat}, okRep (a ++ b) l → okRep a l ∧ okRep b (fold a l)
  | [], _, h => ⟨trivial, h⟩
  | e :: a, l, ⟨h1, h2, h3⟩ => ⟨⟨h1, h2, (okRep_append h3).1⟩, (okRep_append h3).2⟩
/-- single signs put as words: nothing gets shorter -/
theorem grow_one {c : Nat} {z l : List Nat} (hz : 1 ≤ z.length) : l.length ≤ (replace [c] z l).length := by
  rw [replace_one]
  exact flat_ge (fun x => by split <;> simp [hz]) l
theorem fold_grow : ∀ {es : List (List Nat × List Nat)} {l : List Nat}, (∀ e ∈ es, (∃ c, e.1 = [c]) ∧ 1 ≤ e.2.length ∧ e.2.length ≤ 6) → l.length ≤ (fold es l).length
  | [], l, _ => Nat.le_refl _
  | e :: r, l, h => by
    obtain ⟨⟨c, hc⟩, h1, _⟩ := h e (.head _)
    have := fold_grow (es := r) (l := replace e.1 e.2 l) fun q hq => h q (.tail _ hq)
    have h2 := grow_one (c := c) (l := l) h1
    rw [hc] at this
    show l.length ≤ (fold r (replace e.1 e.2 l)).length
    rw [hc]; omega
theorem okRep_grow {K : Nat} (hK : 7 * K + 6 ≤ LIM) : ∀ {es : List (List Nat × List Nat)} {l : List Nat}, (∀ e ∈ es, (∃ c, e.1 = [c]) ∧ 1 ≤ e.2.length ∧ e.2.length ≤ 6) → (fold es l).length ≤ K → okRep es l
  | [], _, _, _ => trivial
  | e :: r, l, h, hl => by
    have h0 := fold_grow (l := l) h
    obtain ⟨⟨c, hc⟩, h1, h2⟩ := h e (.head _)
    refine ⟨by rw [hc]; simp, ?_, okRep_grow hK (fun q hq => h q (.tail _ hq)) hl⟩
    have : (l.length + 1) * e.2.length ≤ (l.length + 1) * 6 := Nat.mul_le_mul_left _ h2
    omega
theorem replace_le {y z : List Nat} (hy : y ≠ []) (hz : z.length ≤ y.length) : ∀ (k : Nat) (l : List Nat), l.length ≤ k → (replace y z l).length ≤ l.length
  | 0, l, h => by
    obtain rfl : l = [] := List.length_eq_zero_iff.mp (Nat.le_zero.mp h)
    exact Nat.le_refl _
  | k + 1, [], _ => Nat.le_refl _
  | k + 1, c :: r, h => by
    rw [replace_cons hy]
    split
    · rename_i hp
      have := replace_le hy hz k ((c :: r).drop y.length) (by
        have : 1 ≤ y.length := by cases y with | nil => exact absurd rfl hy | cons => simp
        simp at h ⊢; omega)
      obtain ⟨t, ht⟩ := isP_iff.mp hp
      have hl := congrArg List.length ht
      rw [List.length_append] at hl
      rw [List.length_append]
      rw [List.length_drop] at this
      omega
    · have := replace_le hy hz k r (by simpa using h)
      simp only [List.length_cons]
      omega
theorem okRep_shrink : ∀ {es : List (List Nat × List Nat)} {l : List Nat}, (∀ e ∈ es, e.1 ≠ [] ∧ e.2.length ≤ e.1.length ∧ e.2.length ≤ 1) → l.length ≤ 8000000 → okRep es l
  | [], _, _, _ => trivial
  | e :: r, l, h, hl => by
    obtain ⟨h1, h2, h3⟩ := h e (.head _)
    have h4 := replace_le h1 h2 _ l (Nat.le_refl _)
    have : (l.length + 1) * e.2.length ≤ (l.length + 1) * 1 := Nat.mul_le_mul_left _ h3
    exact ⟨h1, by unfold LIM; omega, okRep_shrink (fun q hq => h q (.tail _ hq)) (by omega)⟩

noncomputable def pre3 : List (List Nat × List Nat) := [(lit "&", lit "&amp;"), (lit ">", lit "&gt;"), (lit "<", lit "&lt;")]
noncomputable def undo (es : List (List Nat × List Nat)) : List (List Nat × List Nat) := [(lit "&lt;", lit "<"), (lit "&gt;", lit ">")] ++ es ++ [(lit "&amp;", lit "&")]
theorem fold_pre3 (l : List Nat) : fold pre3 l = E3 l := rfl
theorem fold_undo (es : List (List Nat × List Nat)) (l : List Nat) : fold (undo es) l = UU es l := by
  unfold undo; rw [fold_append, fold_append]; rfl

section
variable {X : Hp} {d ep : Nat} {h : Hp} {dv : V} {es : List (List Nat × List Nat)} {l : List Nat} {m : M}
theorem e_repl {y z : String} {e : ME} {p1 p2 p3 p : Pos} {h1 : Hp} (a : Ev X d e m h (.str l) h1) (hy : lit y ≠ [] ∧ l.length + (l.length + 1) * (lit z).length ≤ LIM) : Ev X d (.meth .replace e p1 (.cons (.cst (.str y) p2) (.cons (.cst (.str z) p3) .nil)) p) m h (.str (replace (lit y) (lit z) l)) h1 :=
  e_meth a (a_cons e_cst (a_cons e_cst a_nil)) (by
    show (if lit y ≠ [] ∧ l.length + (l.length + 1) * (lit z).length ≤ LIM then _ else _) = _
    rw [if_pos hy])
theorem c_rep (ho : obj X h dv = some (.dict true ep (encd es))) (hg : okRep es l) : Cl X (d + 1) 0 [.str l, dv] h (.str (fold es l)) h := by
  obtain ⟨x', y', e⟩ := reps_is (dd := some dv) es l none none hg
  refine c_is (fn := ⟨2, 4, b_dict_replace_saxutils, none⟩) (m1 := [some (.str (fold es l)), some dv, x', y']) rfl rfl (x_cons (m1 := [some (.str (fold es l)), some dv, x', y']) (h1 := h) ⟨0, fun n _ => ?_⟩ (x_ret (s_ret (e_loc rfl))))
  rw [stepS]
  show ((some dv).bind _) = _
  rw [Option.bind_some, ho]
  show Option.map _ (reps 0 2 3 (encd es) [some (.str l), some dv, none, none]) = _
  rw [e]; rfl
theorem truth_dict {rep : Bool} (ho : obj X h dv = some (.dict rep ep (encd es))) : truth X h dv = some (!es.isEmpty) := by
  have key : (obj X h dv).bind O.full = some (!es.isEmpty) := by rw [ho]; cases es <;> rfl
  cases dv <;> first | exact key | (cases ho)
theorem x_escape (ho : obj X h dv = some (.dict true ep (encd es))) (hg : okRep (pre3 ++ es) l) : Ex X (d + 1) b_escape [some (.str l), some dv] h (.ret (.str (fold (pre3 ++ es) l))) [some (.str (fold (pre3 ++ es) l)), some dv] h := by
  obtain ⟨g1, g2⟩ := okRep_append hg
  obtain ⟨g3, g4, g5, g6, g7, g8, _⟩ := g1
  rw [fold_append, fold_pre3]
  refine x_cons (s_asg (e_repl (e_loc rfl) ⟨g3, g4⟩)) (x_cons (s_asg (e_repl (e_loc rfl) ⟨g5, g6⟩)) (x_cons (s_asg (e_repl (e_loc rfl) ⟨g7, g8⟩)) ?_))
  have ht := truth_dict ho
  cases es with
  | nil => exact x_cons (s_ite_f (e_loc rfl) ht x_nil) (x_ret (s_ret (e_loc rfl)))
  | cons e r => exact x_cons (s_ite_t (e_loc rfl) ht (x_cons (s_asg (e_call (a_cons (e_loc rfl) (a_cons (e_loc rfl) a_nil)) (c_rep ho g2))) x_nil)) (x_ret (s_ret (e_loc rfl)))
theorem x_unescape (ho : obj X h dv = some (.dict true ep (encd es))) (hg : okRep (undo es) l) : ∃ m', Ex X (d + 1) b_unescape [some (.str l), some dv] h (.ret (.str (UU es l))) m' h := by
  rw [← fold_undo]
  unfold undo at hg ⊢
  obtain ⟨g1, g9, g10, _⟩ := okRep_append hg
  obtain ⟨⟨g3, g4, g5, g6, _⟩, g2⟩ := okRep_append g1
  rw [fold_append, fold_append]
  rw [fold_append] at g10
  have ht := truth_dict ho
  cases es with
  | nil =>
    exact ⟨_, x_cons (s_asg (e_repl (e_loc rfl) ⟨g3, g4⟩)) (x_cons (s_asg (e_repl (e_loc rfl) ⟨g5, g6⟩)) (x_cons (s_ite_f (e_loc rfl) ht x_nil) (x_ret (s_ret (e_repl (e_loc rfl) ⟨g9, g10⟩)))))⟩
  | cons e r =>
    exact ⟨_, x_cons (s_asg (e_repl (e_loc rfl) ⟨g3, g4⟩)) (x_cons (s_asg (e_repl (e_loc rfl) ⟨g5, g6⟩)) (x_cons (s_ite_t (e_loc rfl) ht (x_cons (s_asg (e_call (a_cons (e_loc rfl) (a_cons (e_loc rfl) a_nil)) (c_rep ho g2))) x_nil)) (x_ret (s_ret (e_repl (e_loc rfl) ⟨g9, g10⟩)))))⟩
end

/-- the objects that stand before the law's call -/
structure XOk (X : Hp) (xs : List Int) : Prop where
  s : X[0]? = some (.list (xs.map fun i => V.int i))
  e : X[1]? = some (.dict true 0 [])
  u : X[2]? = some (.dict true 0 [])
  q : X[3]? = some (.dict true 0 [])

section
variable {X : Hp} {xs : List Int} {d : Nat} {h : Hp} {l : List Nat}
theorem pre3_ok : ∀ e ∈ pre3, (∃ c, e.1 = [c]) ∧ 1 ≤ e.2.length ∧ e.2.length ≤ 6 := by
  intro e he
  simp only [pre3, List.mem_cons, List.not_mem_nil, or_false] at he
  rcases he with rfl | rfl | rfl <;> exact ⟨⟨_, rfl⟩, by decide, by decide⟩
theorem whites_ok : ∀ e ∈ pre3 ++ whites, (∃ c, e.1 = [c]) ∧ 1 ≤ e.2.length ∧ e.2.length ≤ 6 := by
  intro e he
  rcases List.mem_append.mp he with he | he
  · exact pre3_ok e he
  · simp only [whites, List.mem_cons, List.not_mem_nil, or_false] at he
    rcases he with rfl | rfl | rfl <;> exact ⟨⟨_, rfl⟩, by decide, by decide⟩
theorem c_escape (O : XOk X xs) (hl : l.length ≤ 300000) : Cl X (d + 2) 1 [.str l] h (.str (E3 l)) h := by
  have := x_escape (X := X) (d := d) (h := h) (dv := .ext 1) (es := []) (ep := 0) (l := l) O.e (okRep_grow (K := 1500000) (by unfold LIM; omega) (es := pre3 ++ []) pre3_ok (by
    show (E3 l).length ≤ _
    have := E3_len l; omega))
  exact c_dflt (fn := ⟨2, 2, b_escape, some 1⟩) rfl rfl rfl this
theorem c_unescape (O : XOk X xs) (hl : l.length ≤ 8000000) : Cl X (d + 2) 2 [.str l] h (.str (UU [] l)) h := by
  obtain ⟨m', this⟩ := x_unescape (X := X) (d := d) (h := h) (dv := .ext 2) (es := []) (ep := 0) (l := l) O.u (okRep_shrink (fun e he => by
    simp only [undo, List.append_nil, List.cons_append, List.nil_append, List.mem_cons, List.not_mem_nil, or_false] at he
    rcases he with rfl | rfl | rfl <;> exact ⟨by decide, by decide, by decide⟩) hl)
  exact c_dflt (fn := ⟨2, 2, b_unescape, some 2⟩) rfl rfl rfl this
theorem c_value (hl : l.length ≤ 8000000) : Cl X (d + 3) 7 [.str l] h (.str (UU tab4 l)) (h ++ [.dict true 4 (encd tab4)]) := by
  obtain ⟨m', this⟩ := x_unescape (X := X) (d := d) (h := h ++ [.dict true 4 (encd tab4)]) (dv := .ref h.length) (es := tab4) (ep := 4) (l := l) (by show (h ++ [_])[h.length]? = _; simp) (okRep_shrink (fun e he => by
    simp only [undo, tab4, List.append_nil, List.cons_append, List.nil_append, List.mem_cons, List.not_mem_nil, or_false] at he
    rcases he with rfl | rfl | rfl | rfl | rfl | rfl | rfl <;> exact ⟨by decide, by decide, by decide⟩) hl)
  refine c_is (fn := ⟨1, 1, b_law_value, none⟩) rfl rfl (x_ret (s_ret (e_call (a_cons (e_loc rfl) (a_cons (e_dict rfl) a_nil)) ?_)))
  exact c_is (fn := ⟨2, 2, b_unescape, some 2⟩) rfl rfl this
end
end Mine

end

section
open PySem
namespace Mine

theorem inStr_one {c : Nat} : ∀ l : List Nat, inStr [c] l = decide (c ∈ l)
  | [] => by simp [inStr]
  | x :: r => by
    rw [inStr, inStr_one r]
    by_cases h : c = x
    · subst h; simp [List.isPrefixOf]
    · simp [List.isPrefixOf, h]
section
variable {X : Hp} {xs : List Int} {d : Nat} {h h1 : Hp} {l x : List Nat} {m : M} {e : ME} {p p1 : Pos}
theorem e_dq (a : Ev X d e m h (.str x) h1) (hx : x.length ≤ 10000000) : Ev X d (.bin .Mod (.cst (.str "\"%s\"") p1) e p) m h (.str (34 :: (x ++ [34]))) h1 :=
  e_bin e_cst a (by
    show (if x.length ≤ 10000000 then (if lit "\"%s\"" = lit "\"%s\"" then _ else _) else _) = _
    rw [if_pos hx, if_pos rfl])
theorem e_sq (a : Ev X d e m h (.str x) h1) (hx : x.length ≤ 10000000) : Ev X d (.bin .Mod (.cst (.str "'%s'") p1) e p) m h (.str (39 :: (x ++ [39]))) h1 :=
  e_bin e_cst a (by
    show (if x.length ≤ 10000000 then (if lit "'%s'" = lit "\"%s\"" then _ else if lit "'%s'" = lit "'%s'" then _ else _) else _) = _
    rw [if_pos hx, if_neg (by decide), if_pos rfl])
theorem e_in {s : String} {c : Nat} (hc : lit s = [c]) (a : Ev X d e m h (.str x) h1) : Ev X d (.cmp .In (.cst (.str s) p1) e p) m h (.bool (decide (c ∈ x))) h1 :=
  e_cmp e_cst a (by
    show some (inStr (lit s) x) = _
    rw [hc, inStr_one])
theorem c_quoteattr (O : XOk X xs) (hl : l.length ≤ 300000) : Cl X (d + 3) 3 [.str l] h (.str (W3 l)) (h ++ [.dict true 3 (encd whites)]) := by
  have hEE : fold (pre3 ++ whites) l = EE whites l := by rw [fold_append]; rfl
  have h6 : (EE whites l).length ≤ 5 * l.length := by rw [E6_code]; exact flat_len len6 l
  have e1 : Ex X (d + 1) b_escape [some (.str l), some (.ref h.length)] (h ++ [.dict true 3 (encd whites)]) (.ret (.str (EE whites l))) [some (.str (EE whites l)), some (.ref h.length)] (h ++ [.dict true 3 (encd whites)]) := by
    have := x_escape (X := X) (d := d) (h := h ++ [.dict true 3 (encd whites)]) (dv := .ref h.length) (es := whites) (ep := 3) (l := l) (by show (h ++ [_])[h.length]? = _; simp) (okRep_grow (K := 1500000) (by unfold LIM; omega) whites_ok (by rw [hEE]; omega))
    rw [hEE] at this
    exact this
  refine c_dflt (fn := ⟨2, 2, b_quoteattr, some 3⟩) (j := 3) (m1 := [some (.str (W3 l)), some (.ref h.length)]) rfl rfl rfl ?_
  refine x_cons (s_asg (e_spread (e_loc rfl) (show obj X h (.ext 3) = some (.dict true 0 []) from O.q) rfl ⟨by decide, rfl⟩)) ?_
  refine x_cons (s_asg (e_call (a_cons (e_loc rfl) (a_cons (e_loc rfl) a_nil)) (c_is (fn := ⟨2, 2, b_escape, some 1⟩) rfl rfl e1))) ?_
  refine x_cons (m1 := [some (.str (W3 l)), some (.ref h.length)]) (h1 := h ++ [.dict true 3 (encd whites)]) ?_ (x_ret (s_ret (e_loc rfl)))
  unfold W3
  by_cases h34 : 34 ∈ EE whites l
  · rw [if_pos h34]
    refine s_ite_t (e_in (c := 34) rfl (e_loc rfl)) (by rw [decide_eq_true h34]; rfl) (x_cons (m1 := [some (.str (if 39 ∈ EE whites l then 34 :: (replace (lit "\"") (lit "&quot;") (EE whites l) ++ [34]) else 39 :: (EE whites l ++ [39]))), some (.ref h.length)]) ?_ x_nil)
    by_cases h39 : 39 ∈ EE whites l
    · rw [if_pos h39]
      have hw : (replace (lit "\"") (lit "&quot;") (EE whites l)).length ≤ 6 * l.length := by rw [E6_code, E7_code]; exact flat_len len7 l
      refine s_ite_t (e_in (c := 39) rfl (e_loc rfl)) (by rw [decide_eq_true h39]; rfl) (x_cons (s_asg (e_dq (e_repl (e_loc rfl) ⟨by decide, ?_⟩) (by omega))) x_nil)
      rw [show (lit "&quot;").length = 6 from rfl]
      unfold LIM; omega
    · rw [if_neg h39]
      exact s_ite_f (e_in (c := 39) rfl (e_loc rfl)) (by rw [decide_eq_false h39]; rfl) (x_cons (s_asg (e_sq (e_loc rfl) (by omega))) x_nil)
  · rw [if_neg h34]
    exact s_ite_f (e_in (c := 34) rfl (e_loc rfl)) (by rw [decide_eq_false h34]; rfl) (x_cons (s_asg (e_dq (e_loc rfl) (by omega))) x_nil)
end
end Mine

end

section
open PySem
namespace Mine

noncomputable def sgs : List V := [.str (lit "a"), .str (lit "&"), .str (lit "<"), .str (lit ">"), .str (lit "\""), .str (lit "'"), .str (lit "\n"), .str (lit "\t"), .str (lit "&lt;"), .str (lit "&quot;"), .str (lit "&amp;"), .str (lit "\r"), .str (lit "&#10;")]
theorem sgs_at {j : Nat} (hj : j < 13) : ∃ s, sgs[j]? = some (.str s) ∧ 1 ≤ s.length ∧ s.length ≤ 6 := by
  match j, hj with
  | 0, _ => exact ⟨_, rfl, by decide, by decide⟩
  | 1, _ => exact ⟨_, rfl, by decide, by decide⟩
  | 2, _ => exact ⟨_, rfl, by decide, by decide⟩
  | 3, _ => exact ⟨_, rfl, by decide, by decide⟩
  | 4, _ => exact ⟨_, rfl, by decide, by decide⟩
  | 5, _ => exact ⟨_, rfl, by decide, by decide⟩
  | 6, _ => exact ⟨_, rfl, by decide, by decide⟩
  | 7, _ => exact ⟨_, rfl, by decide, by decide⟩
  | 8, _ => exact ⟨_, rfl, by decide, by decide⟩
  | 9, _ => exact ⟨_, rfl, by decide, by decide⟩
  | 10, _ => exact ⟨_, rfl, by decide, by decide⟩
  | 11, _ => exact ⟨_, rfl, by decide, by decide⟩
  | 12, _ => exact ⟨_, rfl, by decide, by decide⟩
theorem nidx_nat {i : Int} {n : Nat} (h0 : 0 ≤ i) (h1 : i < n) : nidx i n = some i.toNat := by
  unfold nidx
  rw [if_pos h0, if_pos (by omega)]
theorem idx_list {X h : Hp} {k : Nat} {vs : List V} {i : Int} {v : V} (ho : h[k]? = some (.list vs)) (h0 : 0 ≤ i) (hv : vs[i.toNat]? = some v) : idxv X h (.ref k) (.int i) = some v := by
  have hlt : i.toNat < vs.length := by
    rcases Nat.lt_or_ge i.toNat vs.length with h | h
    · exact h
    · rw [List.getElem?_eq_none h] at hv; cases hv
  show ((h[k]?).bind fun o => idxo o i) = _
  rw [ho]
  show ((nidx i vs.length).bind fun j => vs[j]?) = _
  rw [nidx_nat h0 (by omega)]
  exact hv
theorem idx_tup {X h : Hp} {k : Nat} {vs : List V} {i : Int} {v : V} (ho : h[k]? = some (.tup vs)) (h0 : 0 ≤ i) (hv : vs[i.toNat]? = some v) : idxv X h (.ref k) (.int i) = some v := by
  have hlt : i.toNat < vs.length := by
    rcases Nat.lt_or_ge i.toNat vs.length with h | h
    · exact h
    · rw [List.getElem?_eq_none h] at hv; cases hv
  show ((h[k]?).bind fun o => idxo o i) = _
  rw [ho]
  show ((nidx i vs.length).bind fun j => vs[j]?) = _
  rw [nidx_nat h0 (by omega)]
  exact hv
theorem idx_ext {X h : Hp} {k : Nat} {vs : List V} {i : Int} {v : V} (ho : X[k]? = some (.list vs)) (h0 : 0 ≤ i) (hv : vs[i.toNat]? = some v) : idxv X h (.ext k) (.int i) = some v := by
  have hlt : i.toNat < vs.length := by
    rcases Nat.lt_or_ge i.toNat vs.length with h | h
    · exact h
    · rw [List.getElem?_eq_none h] at hv; cases hv
  show ((X[k]?).bind fun o => idxo o i) = _
  rw [ho]
  show ((nidx i vs.length).bind fun j => vs[j]?) = _
  rw [nidx_nat h0 (by omega)]
  exact hv
theorem idx_strc {X h : Hp} {l : List Nat} {i : Int} {c : Nat} (h0 : 0 ≤ i) (hv : l[i.toNat]? = some c) : idxv X h (.str l) (.int i) = some (.str [c]) := by
  have hlt : i.toNat < l.length := by
    rcases Nat.lt_or_ge i.toNat l.length with h | h
    · exact h
    · rw [List.getElem?_eq_none h] at hv; cases hv
  show (((nidx i l.length).bind fun j => l[j]?).map fun c => V.str [c]) = _
  rw [nidx_nat h0 (by omega), Option.bind_some, hv]; rfl
theorem add_str {x y : List Nat} (h : x.length + y.length ≤ LIM) : binop .Add (.str x) (.str y) = some (.str (x ++ y)) := by
  show (if x.length + y.length ≤ LIM then _ else _) = _
  rw [if_pos h]
theorem fdiv_of {x y : Int} (h0 : y ≠ 0) (h1 : y.natAbs ≤ LIM) : binop .FloorDiv (.int x) (.int y) = some (.int (x.fdiv y)) := by
  show (if y = 0 then _ else if y.natAbs ≤ LIM then _ else _) = _
  rw [if_neg h0, if_pos h1]
theorem fmod_of {x y : Int} (h0 : y ≠ 0) : binop .Mod (.int x) (.int y) = some (.int (x.fmod y)) := by
  show (if y = 0 then _ else _) = _
  rw [if_neg h0]
theorem fmod_range {x y : Int} (h : 0 < y) : 0 ≤ x.fmod y ∧ x.fmod y < y := ⟨Int.fmod_nonneg_of_pos x h, Int.fmod_lt_of_pos x h⟩
theorem append_at {h : Hp} {o : O} : (h ++ [o])[h.length]? = some o := by simp
theorem append_below {h g : Hp} {j : Nat} (hj : j < h.length) : (h ++ g)[j]? = h[j]? := List.getElem?_append_left hj

section
variable {X : Hp} {d : Nat}
noncomputable def textBody : MSs := match b_law_text with
  | .cons _ (.cons _ (.cons (.for1 _ _ _ b _) _)) => b
  | _ => .nil
theorem text_loop {h : Hp} {k : Nat} {i : Int} (ho : h[k]? = some (.list sgs)) : ∀ (ks : List Nat) (t : List Nat) (x : Option V), ks.length ≤ 3 → (∀ q ∈ ks, q ≤ 3) → t.length + 6 * ks.length ≤ 18 → ∃ t' x', t.length + ks.length ≤ t'.length ∧ t'.length ≤ t.length + 6 * ks.length ∧
    For X d (fun _ => true) (st1 3) textBody (ks.map fun (q : Nat) => V.int (q : Int)) [some (.int i), some (.ref k), some (.str t), x] h .next [some (.int i), some (.ref k), some (.str t'), x'] h
  | [], t, x, _, _, _ => ⟨t, x, Nat.le_refl _, Nat.le_refl _, f_nil rfl⟩
  | q :: ks, t, x, hk, hq, ht => by
    have hq0 := hq q (.head _)
    have h13 := fmod_range (x := i.fdiv (3 + 2 * (q : Int))) (y := 13) (by decide)
    obtain ⟨s, hs, s1, s6⟩ := sgs_at (j := ((i.fdiv (3 + 2 * (q : Int))).fmod 13).toNat) (by omega)
    rw [List.length_cons] at hk
    obtain ⟨t', x', l1, l2, ih⟩ := text_loop ho ks (t ++ s) (some (.int (q : Int))) (by omega) (fun r hr => hq r (.tail _ hr)) (by
      rw [List.length_append]; rw [List.length_cons] at ht; omega)
    rw [List.length_append] at l1 l2
    refine ⟨t', x', by rw [List.length_cons]; omega, by rw [List.length_cons]; omega, f_cons rfl rfl ?_ ih⟩
    refine x_cons (s_asg (e_bin (e_loc rfl) (e_idx (e_loc rfl) (e_bin (e_bin (e_loc rfl) (e_bin e_cst (e_bin e_cst (e_loc rfl) rfl) rfl) (fdiv_of (by omega) (by unfold LIM; omega))) e_cst (fmod_of (by decide))) (idx_list ho h13.1 hs)) (add_str (by unfold LIM; omega)))) x_nil
theorem c_text {h : Hp} {i : Int} : ∃ t, 1 ≤ t.length ∧ t.length ≤ 18 ∧ Cl X (d + 1) 4 [.int i] h (.str t) (h ++ [.list sgs]) := by
  have h3 := fmod_range (x := i) (y := 3) (by decide)
  have hl : ((1 : Int) + i.fmod 3).toNat ≤ 3 ∧ 1 ≤ ((1 : Int) + i.fmod 3).toNat := by omega
  obtain ⟨t, x', l1, l2, hf⟩ := text_loop (X := X) (d := d) (h := h ++ [.list sgs]) (k := h.length) (i := i) append_at (List.range ((1 : Int) + i.fmod 3).toNat) [] none (by rw [List.length_range]; exact hl.1) (fun q hq => by have := List.mem_range.mp hq; omega) (by rw [List.length_range]; simp; omega)
  rw [List.length_range] at l1 l2
  simp only [List.length_nil] at l1 l2
  refine ⟨t, by omega, by omega, c_is (fn := ⟨1, 4, b_law_text, none⟩) (m1 := [some (.int i), some (.ref h.length), some (.str t), x']) rfl rfl ?_⟩
  refine x_cons (s_asg (e_list (vs := sgs) (a_cons e_cst (a_cons e_cst (a_cons e_cst (a_cons e_cst (a_cons e_cst (a_cons e_cst (a_cons e_cst (a_cons e_cst (a_cons e_cst (a_cons e_cst (a_cons e_cst (a_cons e_cst (a_cons e_cst a_nil))))))))))))))) ?_
  refine x_cons (s_asg e_cst) ?_
  refine x_cons (s_range (k := 1 + i.fmod 3) (e_bin e_cst (e_bin (e_loc rfl) e_cst (fmod_of (by decide))) rfl) (by unfold LIM; omega) hf) ?_
  exact x_ret (s_ret (e_loc rfl))
end
end Mine

end

section
open PySem
namespace Mine

theorem set_ne {h : Hp} {k j : Nat} {o : O} (hj : j ≠ k) : (h.set k o)[j]? = h[j]? := List.getElem?_set_ne (Ne.symm hj)
theorem set_self {h : Hp} {k : Nat} {o : O} (hk : k < h.length) : (h.set k o)[k]? = some o := List.getElem?_set_self hk
theorem isL_of {h : Hp} {k : Nat} {vs : List V} (ho : h[k]? = some (.list vs)) : isL h k = true := by unfold isL; rw [ho]
theorem appL_of {h : Hp} {k : Nat} {vs : List V} {v : V} (ho : h[k]? = some (.list vs)) (hl : vs.length < LIM) : appL h k v = some (h.set k (.list (vs ++ [v]))) := by unfold appL; rw [ho]; exact if_pos hl
theorem setL_of {h : Hp} {k : Nat} {vs : List V} {v : V} {i : Int} {j : Nat} (ho : h[k]? = some (.list vs)) (hj : nidx i vs.length = some j) : setL h k i v = some (h.set k (.list (vs.set j v))) := by unfold setL; rw [ho]; show Option.map _ _ = _; rw [hj]; rfl
theorem len_ref {X h : Hp} {k : Nat} {vs : List V} (ho : h[k]? = some (.list vs)) : bcall X .len [.ref k] h = some (.int (vs.length : Nat), h) := by
  have : lenv X h (.ref k) = some (vs.length : Int) := by show ((h[k]?).bind _) = _; rw [ho]; rfl
  show Option.map _ (lenv X h (.ref k)) = _
  rw [this]; rfl
theorem len_ext {X h : Hp} {k : Nat} {vs : List V} (ho : X[k]? = some (.list vs)) : bcall X .len [.ext k] h = some (.int (vs.length : Nat), h) := by
  have : lenv X h (.ext k) = some (vs.length : Int) := by show ((X[k]?).bind _) = _; rw [ho]; rfl
  show Option.map _ (lenv X h (.ext k)) = _
  rw [this]; rfl

/-! how heaps stay the same outside a set of places -/
structure Keep (S : Nat → Prop) (h h' : Hp) : Prop where
  len : h.length ≤ h'.length
  same : ∀ j, j < h.length → ¬ S j → h'[j]? = h[j]?
noncomputable def one (a : Nat) : Nat → Prop := fun j => j = a
noncomputable def two (a b : Nat) : Nat → Prop := fun j => j = a ∨ j = b
theorem at_lt {h : Hp} {k : Nat} {o : O} (e : h[k]? = some o) : k < h.length := by
  rcases Nat.lt_or_ge k h.length with q | q
  · exact q
  · rw [List.getElem?_eq_none q] at e; cases e
theorem Keep.via {S S' : Nat → Prop} {a b c : Hp} (hS : ∀ j, j < a.length → S' j → S j) (x : Keep S a b) (y : Keep S' b c) : Keep S a c :=
  ⟨Nat.le_trans x.len y.len, fun j l n => (y.same j (Nat.lt_of_lt_of_le l x.len) fun q => n (hS j l q)).trans (x.same j l n)⟩
theorem Keep.trans {S : Nat → Prop} {a b c : Hp} (x : Keep S a b) (y : Keep S b c) : Keep S a c := x.via (fun _ _ q => q) y
theorem Keep.refl {S : Nat → Prop} (a : Hp) : Keep S a a := ⟨Nat.le_refl _, fun _ _ _ => rfl⟩
theorem Keep.app {S : Nat → Prop} {h g : Hp} : Keep S h (h ++ g) := ⟨by rw [List.length_append]; exact Nat.le_add_right _ _, fun _ l _ => append_below l⟩
theorem Keep.set {S : Nat → Prop} {h : Hp} {k : Nat} {o : O} (hk : S k) : Keep S h (h.set k o) := ⟨by rw [List.length_set]; exact Nat.le_refl _, fun j _ n => set_ne fun e => n (e ▸ hk)⟩
theorem Keep.weak {S S' : Nat → Prop} {a b : Hp} (x : Keep S' a b) (hS : ∀ j, j < a.length → S' j → S j) : Keep S a b := (Keep.refl a).via hS x
theorem Keep.at_ {S : Nat → Prop} {h h' : Hp} {j : Nat} {o : O} (x : Keep S h h') (e : h[j]? = some o) (n : ¬ S j) : h'[j]? = some o := (x.same j (at_lt e) n).trans e
theorem Keep.lt {S : Nat → Prop} {h h' : Hp} {j : Nat} (x : Keep S h h') (l : j < h.length) : j < h'.length := Nat.lt_of_lt_of_le l x.len
theorem Keep.rp {S : Nat → Prop} {h h' : Hp} {lo lo' hi : Nat} {D : D} {vs : List V} (x : Keep S h h') (hl : lo' ≤ lo) (hh : hi ≤ h.length) (n : ∀ j, lo ≤ j → ¬ S j) (r : D.Rp h lo hi vs) : D.Rp h' lo' h'.length vs :=
  r.mono hl (Nat.le_trans hh x.len) fun j a b => x.same j (Nat.lt_of_lt_of_le b hh) (n j a)
theorem one_out {a j : Nat} (l : a < j) : ¬ one a j := Nat.ne_of_gt l
theorem one_below {a j : Nat} (l : j < a) : ¬ one a j := Nat.ne_of_lt l
theorem two_out {a b j : Nat} (l : a < b) (l2 : b < j) : ¬ two a b j := fun q => q.elim (Nat.ne_of_gt (Nat.lt_trans l l2)) (Nat.ne_of_gt l2)

/-- a document made of the script -/
structure Made (xs : List Int) (ka : Nat) (P : D → Prop) (i : Nat) (h : Hp) (D : D) (k : Nat) (vs : List V) (i' : Nat) (h' : Hp) : Prop where
  lo : h.length ≤ k
  hi : k < h'.length
  at_ : h'[k]? = some (.list vs)
  rp : D.Rp h' h.length h'.length vs
  ok : D.Ok 0
  le : i ≤ i'
  le2 : i' ≤ xs.length
  cur : h'[ka]? = some (.list [.int (i' : Int)])
  keep : Keep (one ka) h h'
  num : P D
  cost : D.cost + 90 * i ≤ 90 * i'
/-- how deep a document is, by the levels left -/
noncomputable def Lv (q : Nat) (D : D) : Prop := D.Dp (2 * q + 2) ∧ D.Dv q
noncomputable def Sb (q : Nat) (D : D) : Prop := D.Dp (2 * q) ∧ (D = .nil ∨ ∃ j, q = j + 1 ∧ D.Dv j)

/-- a document may be made one step deeper -/
noncomputable def Sub (X : Hp) (xs : List Int) (d ka q deep : Nat) : Prop :=
  ∀ p, q = p + 1 → ∀ (h : Hp) (i : Nat), ka < h.length → h[ka]? = some (.list [.int (i : Int)]) → i ≤ xs.length → ∃ D k vs i' h', Cl X d 5 [.ext 0, .ref ka, .int ((deep + 1 : Nat) : Int)] h (.ref k) h' ∧ Made xs ka (Lv p) i h D k vs i' h'

section
variable {X : Hp} {xs : List Int} {d ka q deep : Nat}
theorem lt_true {X h : Hp} {a b : Int} (hab : a < b) : cmpop X h .Lt (.int a) (.int b) = some true := by
  show some (decide (a < b)) = _
  rw [decide_eq_true hab]
theorem lt_false {X h : Hp} {a b : Int} (hab : ¬ a < b) : cmpop X h .Lt (.int a) (.int b) = some false := by
  show some (decide (a < b)) = _
  rw [decide_eq_false hab]
theorem e_sub (P : Sub X xs d ka q deep) {m : M} (m0 : m.getD 0 .none = some (.ext 0)) (m1 : m.getD 1 .none = some (.ref ka)) (m2 : m.getD 2 .none = some (.int (deep : Int))) (hg : deep + q = 3) {h : Hp} {i : Nat} (hka : ka < h.length) (hc : h[ka]? = some (.list [.int (i : Int)])) (hi : i ≤ xs.length) {p1 p2 p3 p4 p5 p6 p7 p8 p9 p10 p11 p12 : Pos} :
    ∃ D k vs i' h', Ev X d (.ite (.cmp .Lt (.loc 2 p1) (.cst (.int 3) p2) p3) (.call (.glob 5 p4) (.cons (.loc 0 p5) (.cons (.loc 1 p6) (.cons (.bin .Add (.loc 2 p7) (.cst (.int 1) p8) p9) .nil))) p10) (.list .nil p11) p12) m h (.ref k) h' ∧ Made xs ka (Sb q) i h D k vs i' h' := by
  cases q with
  | succ p =>
    obtain ⟨D, k, vs, i', h', q1, q2⟩ := P p rfl h i hka hc hi
    refine ⟨D, k, vs, i', h', e_ite_t (e_cmp (e_loc m2) e_cst (lt_true ?_)) rfl (e_call (a_cons (e_loc m0) (a_cons (e_loc m1) (a_cons (e_bin (e_loc m2) e_cst rfl) a_nil))) q1), ⟨q2.lo, q2.hi, q2.at_, q2.rp, q2.ok, q2.le, q2.le2, q2.cur, q2.keep, ⟨q2.num.1, .inr ⟨p, rfl, q2.num.2⟩⟩, q2.cost⟩⟩
    clear P q2; omega
  | zero =>
    refine ⟨.nil, h.length, [], i, h ++ [.list []], e_ite_f (e_cmp (e_loc m2) e_cst (lt_false ?_)) rfl (e_list a_nil), ⟨Nat.le_refl _, by rw [List.length_append]; exact Nat.lt_succ_self _, append_at, rfl, trivial, Nat.le_refl _, hi, (append_below hka).trans hc, Keep.app, ⟨trivial, .inl rfl⟩, Nat.le_of_eq (Nat.zero_add _)⟩⟩
    clear P; omega

noncomputable def whBody : MSs := match b_law_document with
  | .cons _ (.cons (.while _ b _) _) => b
  | _ => .nil
noncomputable def whTest : ME := match b_law_document with
  | .cons _ (.cons (.while t _ _) _) => t
  | _ => .loc 0 default
noncomputable def valBody : MSs := match whBody with
  | .cons _ (.cons _ (.cons _ (.cons (.ite _ _ (.cons _ (.cons (.for1 _ _ _ b _) _)) _) _))) => b
  | _ => .nil

theorem pq_at {X h : Hp} {q : Nat} (hq : q < 2) : ∃ c, (c = 112 ∨ c = 113) ∧ idxv X h (.str (lit "pq")) (.int (q : Int)) = some (.str [c]) := by
  match q, hq with
  | 0, _ => exact ⟨112, .inl rfl, rfl⟩
  | 1, _ => exact ⟨113, .inr rfl, rfl⟩
/-- what the loop over values keeps -/
structure VI (xs : List Int) (ka kv q i0 c0 : Nat) (h0 : Hp) (B : D) (va : List V) (i : Nat) (h : Hp) : Prop where
  kv_ : kv < h.length
  cur : h[ka]? = some (.list [.int (i : Int)])
  le : i0 ≤ i
  le2 : i ≤ xs.length
  at_ : h[kv]? = some (.list va)
  rp : B.Rp h (kv + 1) h.length va
  ok : B.Ok 2
  dp : B.Dp (2 * q + 1)
  dv : B.Dv q
  cost : B.cost + 90 * i0 ≤ c0 + 90 * i
  keep : Keep (two ka kv) h0 h
theorem vals_loop (P : Sub X xs d ka q deep) (hg : deep + q = 3) {k kv i0 : Nat} {h0 : Hp} {x4 x5 : Option V} (hkv : ka < kv) (ks : List Nat) : ∀ {h : Hp} {B : D} {va : List V} {i c0 : Nat} {x7 : Option V}, (∀ q ∈ ks, q < 2) → va.length + ks.length ≤ 100 → VI xs ka kv q i0 c0 h0 B va i h →
    ∃ (B' : D) (va' : List V) (i' : Nat) (h' : Hp) (x7' : Option V), For X d (fun _ => true) (st1 7) valBody (ks.map fun (q : Nat) => V.int (q : Int)) [some (.ext 0), some (.ref ka), some (.int (deep : Int)), some (.ref k), x4, x5, some (.ref kv), x7] h .next [some (.ext 0), some (.ref ka), some (.int (deep : Int)), some (.ref k), x4, x5, some (.ref kv), x7'] h' ∧
      VI xs ka kv q i0 (c0 + 5 * ks.length) h0 B' va' i' h' := by
  induction ks with
  | nil => exact fun {h B va i c0 x7} _ _ I => ⟨B, va, i, h, x7, f_nil rfl, I⟩
  | cons z ks ih =>
    intro h B va i c0 x7 hq hl I
    obtain ⟨c, hcc, hidx⟩ := pq_at (X := X) (h := h) (hq z (.head _))
    have hka : ka < h.length := Nat.lt_trans hkv I.kv_
    obtain ⟨D1, k1, vs1, i1, h1, s1, M⟩ := e_sub (h := h) (i := i) P (m := [some (.ext 0), some (.ref ka), some (.int (deep : Int)), some (.ref k), x4, x5, some (.ref kv), some (.int (z : Int))]) rfl rfl rfl hg (p1 := ⟨53, 79, 53, 83⟩) (p2 := ⟨53, 86, 53, 87⟩) (p3 := ⟨53, 79, 53, 87⟩) (p4 := ⟨53, 40, 53, 53⟩) (p5 := ⟨53, 54, 53, 60⟩) (p6 := ⟨53, 62, 53, 64⟩) (p7 := ⟨53, 66, 53, 70⟩) (p8 := ⟨53, 73, 53, 74⟩) (p9 := ⟨53, 66, 53, 74⟩) (p10 := ⟨53, 40, 53, 75⟩) (p11 := ⟨53, 93, 53, 95⟩) (p12 := ⟨53, 40, 53, 95⟩) hka I.cur I.le2
    have hl1 : va.length < 100 := Nat.lt_of_lt_of_le (Nat.lt_add_of_pos_right (Nat.succ_pos _)) hl
    have a2 : (h1 ++ [O.tup [.str [c], .ref k1]])[kv]? = some (.list va) := Keep.at_ (S := one ka) (M.keep.trans Keep.app) I.at_ (one_out hkv)
    obtain ⟨h3, e3⟩ : ∃ h3, h3 = (h1 ++ [O.tup [.str [c], .ref k1]]).set kv (.list (va ++ [.ref h1.length])) := ⟨_, rfl⟩
    have K2 : Keep (one kv) (h1 ++ [O.tup [.str [c], .ref k1]]) h3 := e3 ▸ Keep.set rfl
    have K1 : Keep (one kv) h1 h3 := Keep.app.trans K2
    have kv1 : kv < h1.length := M.keep.lt I.kv_
    have K0 : Keep (two ka kv) h h3 := (M.keep.weak fun j _ e => .inl e).trans (K1.weak fun j _ e => .inr e)
    have t3 : h3[h1.length]? = some (O.tup [.str [c], .ref k1]) := K2.at_ append_at (one_out kv1)
    have k1l : kv < k1 := Nat.lt_of_lt_of_le I.kv_ M.lo
    have rnew : (Mine.D.val c D1 .nil).Rp h3 (kv + 1) h3.length [.ref h1.length] :=
      ⟨h1.length, k1, vs1, [], rfl, ⟨kv1, at_lt t3⟩, ⟨k1l, K1.lt M.hi⟩, t3, K1.at_ M.at_ (one_out k1l), K1.rp I.kv_ (Nat.le_refl _) (fun j a => one_out (Nat.lt_of_lt_of_le I.kv_ a)) M.rp, rfl⟩
    have n1 : D.Dp (2 * q + 1) (.val c D1 .nil) := ⟨⟨_, rfl, M.num.1⟩, trivial⟩
    have n2 : D.Dv q (.val c D1 .nil) := ⟨M.num.2, trivial⟩
    have I3 : VI xs ka kv q i0 (c0 + 5) h0 (B.app (.val c D1 .nil)) (va ++ [.ref h1.length]) i1 h3 := by
      refine ⟨K0.lt I.kv_, K1.at_ M.cur (one_below hkv), Nat.le_trans I.le M.le, M.le2, e3 ▸ set_self (by rw [List.length_append]; exact Nat.lt_succ_of_lt kv1), D.Rp.app rnew (K0.rp (Nat.le_refl _) (Nat.le_refl _) (fun j a => two_out hkv a) I.rp), D.Ok.val_end hcc M.ok I.ok, D.Dp.app n1 I.dp, D.Dv.app n2 I.dv, ?_, I.keep.trans K0⟩
      rw [D.cost_app]
      have h1 := M.cost
      have h2 := I.cost
      show B.cost + (5 + D1.cost + 0) + 90 * i0 ≤ _
      clear I M P ih
      omega
    obtain ⟨B', va', i', h', x7', q1, q2⟩ := ih (x7 := some (.int (z : Int))) (fun z hz => hq z (.tail _ hz)) (by rw [List.length_append, Nat.add_assoc, Nat.add_comm [V.ref h1.length].length]; exact hl) I3
    refine ⟨B', va', i', h', x7', f_cons rfl rfl ?_ q1, ?_⟩
    · rw [e3]
      exact x_cons (s_app (e_loc rfl) (isL_of I.at_) (e_tup (a_cons (e_idx e_cst (e_loc rfl) hidx) (a_cons s1 a_nil))) (appL_of a2 (Nat.lt_of_lt_of_le hl1 (by decide)))) x_nil
    · rw [Nat.add_assoc, Nat.add_comm 5, ← Nat.mul_succ] at q2
      exact q2
end
end Mine

end

section
open PySem
namespace Mine

/-- at the document loop's head -/
structure DI (xs : List Int) (ka q i0 : Nat) (h0 : Hp) (D : D) (vs : List V) (i : Nat) (h : Hp) : Prop where
  ka_ : ka < h0.length
  at_ : h[h0.length]? = some (.list vs)
  rp : D.Rp h (h0.length + 1) h.length vs
  ok : D.Ok 0
  n6 : vs.length ≤ 6
  le : i0 ≤ i
  le2 : i ≤ xs.length
  cur : h[ka]? = some (.list [.int (i : Int)])
  keep : Keep (one ka) h0 h
  num : Lv q D
  cost : D.cost + 90 * i0 ≤ 90 * i
theorem DI.made {xs : List Int} {ka q i0 : Nat} {h0 : Hp} {D : D} {vs : List V} {i : Nat} {h : Hp} (I : DI xs ka q i0 h0 D vs i h) : Made xs ka (Lv q) i0 h0 D h0.length vs i h :=
  ⟨Nat.le_refl _, at_lt I.at_, I.at_, I.rp.mono (Nat.le_succ _) (Nat.le_refl _) fun _ _ _ => rfl, I.ok, I.le, I.le2, I.cur, I.keep, I.num, I.cost⟩
theorem two_new {ka : Nat} {h0 : Hp} (j : Nat) (l : j < h0.length) (e : two ka h0.length j) : one ka j := e.elim id fun e => absurd l (by rw [e]; exact Nat.lt_irrefl _)
theorem cost_le {a b c : Nat} (h : a + 90 * b ≤ 90 * c) : a + 90 * b + 90 ≤ 90 * (c + 1) := by omega
/-- the script's next item is taken -/
theorem DI.took {xs : List Int} {ka q i0 : Nat} {h0 : Hp} {D : D} {vs : List V} {i : Nat} {h : Hp} (I : DI xs ka q i0 h0 D vs i h) (hi : i < xs.length) : DI xs ka q i0 h0 D vs (i + 1) (h.set ka (.list [.int ((i + 1 : Nat) : Int)])) := by
  have K : Keep (one ka) h (h.set ka (.list [.int ((i + 1 : Nat) : Int)])) := Keep.set rfl
  exact ⟨I.ka_, K.at_ I.at_ (one_out I.ka_), K.rp (Nat.le_refl _) (Nat.le_refl _) (fun j a => one_out (Nat.lt_of_lt_of_le (Nat.lt_succ_of_lt I.ka_) a)) I.rp, I.ok, I.n6, Nat.le_succ_of_le I.le, hi, set_self (at_lt I.cur), I.keep.trans K, I.num, Nat.le_trans (Nat.le_add_right _ 90) (cost_le I.cost)⟩

section
variable {X : Hp} {xs : List Int} {d ka q deep i0 : Nat} {h0 : Hp}
theorem nidx_last {α : Type} {vs : List α} {v : α} : nidx (-1) (vs ++ [v]).length = some vs.length := by
  unfold nidx
  rw [if_neg (by decide), if_pos (by rw [List.length_append]; simp; omega)]
  congr 1
  rw [List.length_append]; simp; omega
theorem idx_last {h : Hp} {k : Nat} {vs : List V} {v : V} (ho : h[k]? = some (.list (vs ++ [v]))) : idxv X h (.ref k) (.int (-1)) = some v := by
  show ((h[k]?).bind fun o => idxo o (-1)) = _
  rw [ho]
  show ((nidx (-1) (vs ++ [v]).length).bind fun j => (vs ++ [v])[j]?) = _
  rw [nidx_last, Option.bind_some]
  simp
theorem setL_last {h : Hp} {k : Nat} {vs : List V} {v w : V} (ho : h[k]? = some (.list (vs ++ [v]))) : setL h k (-1) w = some (h.set k (.list (vs ++ [w]))) := by
  rw [setL_of ho nidx_last]
  congr 3
  simp

noncomputable def DSt (ka deep k : Nat) (x4 x5 x6 x7 : Option V) : M := [some (.ext 0), some (.ref ka), some (.int (deep : Int)), some (.ref k), x4, x5, x6, x7]
noncomputable def txtBody : MSs := match whBody with
  | .cons _ (.cons _ (.cons _ (.cons (.ite _ b _ _) _))) => b
  | _ => .nil
noncomputable def elBody : MSs := match whBody with
  | .cons _ (.cons _ (.cons _ (.cons (.ite _ _ b _) _))) => b
  | _ => .nil

theorem txt_turn {B : D} {vs : List V} {i : Nat} {h : Hp} {x : Int} {x5 x6 x7 : Option V} (I : DI xs ka q i0 h0 B vs i h) (hx : xs.length ≤ 63) (h6 : vs.length < 6) (hc : B.cost + 90 * i0 + 90 ≤ 90 * i) :
    ∃ (D' : Mine.D) (vs' : List V) (h' : Hp) (x5' : Option V), Ex X (d + 1) txtBody (DSt ka deep h0.length (some (.int x)) x5 x6 x7) h .next (DSt ka deep h0.length (some (.int x)) x5' x6 x7) h' ∧ DI xs ka q i0 h0 D' vs' i h' := by
  obtain ⟨t, t1, t18, ct⟩ := c_text (X := X) (d := d) (h := h) (i := (x.fdiv 4).fmod 100003)
  have hne : t ≠ [] := by rintro rfl; exact absurd t1 (by decide)
  have st1 : Sx X (d + 1) (.asg 5 ⟨45, 12, 45, 16⟩ (.call (.glob 4 ⟨45, 19, 45, 28⟩) (.cons (.bin .Mod (.bin .FloorDiv (.loc 4 ⟨45, 29, 45, 30⟩) (.cst (.int 4) ⟨45, 34, 45, 35⟩) ⟨45, 29, 45, 35⟩) (.cst (.int 100003) ⟨45, 38, 45, 44⟩) ⟨45, 29, 45, 44⟩) .nil) ⟨45, 19, 45, 45⟩) ⟨45, 12, 45, 45⟩) (DSt ka deep h0.length (some (.int x)) x5 x6 x7) h .next (DSt ka deep h0.length (some (.int x)) (some (.str t)) x6 x7) (h ++ [O.list sgs]) :=
    s_asg (e_call (a_cons (e_bin (e_bin (e_loc rfl) e_cst (fdiv_of (by decide) (by decide))) e_cst (fmod_of (by decide))) a_nil) ct)
  have K1 : Keep (two ka h0.length) h (h ++ [O.list sgs]) := Keep.app
  have K1' : Keep (one ka) h0 (h ++ [O.list sgs]) := I.keep.trans Keep.app
  have at2 : (h ++ [O.list sgs])[h0.length]? = some (.list vs) := (append_below (at_lt I.at_)).trans I.at_
  have hcur : (h ++ [O.list sgs])[ka]? = some (.list [.int (i : Int)]) := (append_below (at_lt I.cur)).trans I.cur
  have rp2 : B.Rp (h ++ [O.list sgs]) (h0.length + 1) (h ++ [O.list sgs]).length vs := K1.rp (Nat.le_refl _) (Nat.le_refl _) (fun j a => two_out I.ka_ a) I.rp
  clear ct
  revert st1 at2 hcur rp2 K1'
  clear K1
  generalize h ++ [O.list sgs] = h2
  intro st1 K1' at2 hcur rp2
  have fin : ∀ {D' : Mine.D} {vs' : List V}, D'.Rp h2 (h0.length + 1) h2.length vs' → D'.Ok 0 → vs'.length ≤ 6 → Lv q D' → D'.cost = B.cost + 5 * t.length → DI xs ka q i0 h0 D' vs' i (h2.set h0.length (.list vs')) := by
    intro D' vs' r ok n6 e1 e3
    have K2 : Keep (two ka h0.length) h2 (h2.set h0.length (.list vs')) := Keep.set (.inr rfl)
    refine ⟨I.ka_, set_self (at_lt at2), K2.rp (Nat.le_refl _) (Nat.le_refl _) (fun j a => two_out I.ka_ a) r, ok, n6, I.le, I.le2, (set_ne (Nat.ne_of_lt I.ka_)).trans hcur, K1'.via two_new K2, e1, ?_⟩
    clear I K1' K2 st1
    omega
  have rt : (Mine.D.txt t .nil).Rp h2 (h0.length + 1) h2.length [.str t] := ⟨[], rfl, rfl⟩
  have app : (vs = [] ∨ D.NoTxt vs) → DI xs ka q i0 h0 (B.app (.txt t .nil)) (vs ++ [.str t]) i (h2.set h0.length (.list (vs ++ [.str t]))) := by
    intro hn
    exact fin (D.Rp.app rt rp2) (D.Ok.txt_end hne (by decide) (fun _ => rfl) hn rp2 I.ok) (by rw [List.length_append]; exact h6) ⟨D.Dp.app (show D.Dp _ (.txt t .nil) from trivial) I.num.1, D.Dv.app (show D.Dv _ (.txt t .nil) from trivial) I.num.2⟩ (D.cost_app _ _)
  have hL : vs.length < LIM := Nat.lt_of_lt_of_le h6 (by decide)
  rcases List.eq_nil_or_concat vs with hv | ⟨ws, v, hv⟩
  · subst hv
    refine ⟨_, _, _, some (.str t), x_cons st1 (x_cons (s_ite_f (e_and_f (e_cmp (c := false) (e_bcall (a_cons (e_loc rfl) a_nil) (len_ref at2)) e_cst rfl) rfl) rfl ?_) x_nil), app (.inl rfl)⟩
    exact x_cons (s_app (e_loc rfl) (isL_of at2) (e_loc rfl) (appL_of at2 hL)) x_nil
  · rw [List.concat_eq_append] at hv
    subst hv
    have pos : cmpop X h2 .Gt (.int ((ws ++ [v]).length : Nat)) (.int 0) = some true := by
      show some (decide ((0 : Int) < ((ws ++ [v]).length : Nat))) = _
      rw [decide_eq_true (by simp)]
    rcases D.items_are (by decide) I.ok rp2 v (by simp) with ⟨l, rfl, hl⟩ | ⟨r, us, rfl, hq⟩
    · obtain ⟨D', r', ok', e1, e2, e3⟩ := D.longer (t := t) (by decide) rp2 I.ok I.num.1 I.num.2
      refine ⟨D', _, _, some (.str t), x_cons st1 (x_cons (s_ite_t (e_and_t (e_cmp (e_bcall (a_cons (e_loc rfl) a_nil) (len_ref at2)) e_cst pos) rfl (e_isStr_t (e_idx (e_loc rfl) (e_neg e_cst) (idx_last at2)))) rfl ?_) x_nil), fin r' ok' (by have := I.n6; rw [List.length_append] at this ⊢; exact this) ⟨e1, e2⟩ e3⟩
      refine x_cons (s_sets (e_bin (e_idx (e_loc rfl) (e_neg e_cst) (idx_last at2)) (e_loc rfl) (add_str ?_)) (e_loc rfl) (e_neg e_cst) (setL_last at2)) x_nil
      have le2 := I.le2
      clear I K1' st1 fin app rp2 r' ok' e3
      unfold LIM; omega
    · refine ⟨_, _, _, some (.str t), x_cons st1 (x_cons (s_ite_f (e_and_t (e_cmp (e_bcall (a_cons (e_loc rfl) a_nil) (len_ref at2)) e_cst pos) rfl (e_isStr_f (e_idx (e_loc rfl) (e_neg e_cst) (idx_last at2)) hq)) rfl ?_) x_nil), app (.inr fun l => by simp)⟩
      exact x_cons (s_app (e_loc rfl) (isL_of at2) (e_loc rfl) (appL_of at2 hL)) x_nil

theorem abc_at {X h : Hp} {x : Int} : ∃ c, (c = 97 ∨ c = 98 ∨ c = 99) ∧ idxv X h (.str (lit "abc")) (.int (x.fmod 3)) = some (.str [c]) := by
  have := fmod_range (x := x) (y := 3) (by decide)
  obtain ⟨n, hn⟩ : ∃ n : Nat, x.fmod 3 = n := ⟨(x.fmod 3).toNat, by omega⟩
  rw [hn] at this ⊢
  match n, this with
  | 0, _ => exact ⟨97, .inl rfl, rfl⟩
  | 1, _ => exact ⟨98, .inr (.inl rfl), rfl⟩
  | 2, _ => exact ⟨99, .inr (.inr rfl), rfl⟩
  | n + 3, h => omega
theorem el_cost {b v d i0 i i1 i2 n : Nat} (h1 : b + 90 * i0 + 90 ≤ 90 * i) (h2 : v + 90 * i ≤ 5 * n + 90 * i1) (h3 : d + 90 * i1 ≤ 90 * i2) (hn : n ≤ 2) : b + (7 + v + d + 0) + 90 * i0 ≤ 90 * i2 := by omega
theorem el_turn (P : Sub X xs (d + 1) ka q deep) (hg : deep + q = 3) {B : D} {vs : List V} {i : Nat} {h : Hp} {x : Int} {x5 x6 x7 : Option V} (I : DI xs ka q i0 h0 B vs i h) (h6 : vs.length < 6) (hc : B.cost + 90 * i0 + 90 ≤ 90 * i) :
    ∃ (D' : Mine.D) (vs' : List V) (i' : Nat) (h' : Hp) (x6' x7' : Option V), i ≤ i' ∧ Ex X (d + 1) elBody (DSt ka deep h0.length (some (.int x)) x5 x6 x7) h .next (DSt ka deep h0.length (some (.int x)) x5 x6' x7') h' ∧ DI xs ka q i0 h0 D' vs' i' h' := by
  have k1 := I.ka_
  have k2 := at_lt I.at_
  have h3 := fmod_range (x := x.fdiv 12) (y := 3) (by decide)
  have hn2 : ((x.fdiv 12).fmod 3).toNat ≤ 2 := by clear I P hc; omega
  have hkl : ((x.fdiv 12).fmod 3).natAbs ≤ LIM := by clear I P hc; unfold LIM; omega
  have hkh : ka < h.length := at_lt I.cur
  have V0 : VI xs ka h.length q i 0 (h ++ [.list []]) .nil [] i (h ++ [.list []]) :=
    ⟨by rw [List.length_append]; exact Nat.lt_succ_self _, (append_below hkh).trans I.cur, Nat.le_refl _, I.le2, append_at, rfl, trivial, trivial, trivial, Nat.le_refl _, Keep.refl _⟩
  obtain ⟨Dv, va, i1, h1, x7', q1, Vi⟩ := vals_loop P hg (k := h0.length) (kv := h.length) (x4 := some (.int x)) (x5 := x5) (x7 := x7) hkh (List.range ((x.fdiv 12).fmod 3).toNat) (fun q hq => Nat.lt_of_lt_of_le (List.mem_range.mp hq) hn2) (by rw [List.length_range]; exact Nat.le_trans (Nat.add_le_add_left hn2 0) (by decide)) V0
  have Kh : Keep (one ka) h h1 := (Keep.app (g := [.list []])).via (S' := two ka h.length) (fun j l e => e.elim id fun e => absurd l (by rw [e]; exact Nat.lt_irrefl _)) Vi.keep
  obtain ⟨D2, k2', vs2, i2, h2, s2, M⟩ := e_sub (h := h1) (i := i1) P (m := [some (.ext 0), some (.ref ka), some (.int (deep : Int)), some (.ref h0.length), some (.int x), x5, some (.ref h.length), x7']) rfl rfl rfl hg (p1 := ⟨54, 92, 54, 96⟩) (p2 := ⟨54, 99, 54, 100⟩) (p3 := ⟨54, 92, 54, 100⟩) (p4 := ⟨54, 53, 54, 66⟩) (p5 := ⟨54, 67, 54, 73⟩) (p6 := ⟨54, 75, 54, 77⟩) (p7 := ⟨54, 79, 54, 83⟩) (p8 := ⟨54, 86, 54, 87⟩) (p9 := ⟨54, 79, 54, 87⟩) (p10 := ⟨54, 53, 54, 88⟩) (p11 := ⟨54, 106, 54, 108⟩) (p12 := ⟨54, 53, 54, 108⟩) (Kh.lt hkh) Vi.cur Vi.le2
  obtain ⟨c, hcc, hidx⟩ := abc_at (X := X) (h := h1) (x := x.fdiv 4)
  have at1 : h1[h0.length]? = some (.list vs) := Kh.at_ I.at_ (one_out k1)
  have at2 : (h2 ++ [O.tup [.str [c], .ref h.length, .ref k2']])[h0.length]? = some (.list vs) := (M.keep.trans Keep.app).at_ at1 (one_out k1)
  obtain ⟨h7, e7⟩ : ∃ h7, h7 = (h2 ++ [O.tup [.str [c], .ref h.length, .ref k2']]).set h0.length (.list (vs ++ [.ref h2.length])) := ⟨_, rfl⟩
  have K6 : Keep (one h0.length) (h2 ++ [O.tup [.str [c], .ref h.length, .ref k2']]) h7 := e7 ▸ Keep.set rfl
  have K5 : Keep (one h0.length) h2 h7 := Keep.app.trans K6
  have K3 : Keep (two ka h0.length) h1 h7 := (M.keep.weak fun j _ e => .inl e).trans (K5.weak fun j _ e => .inr e)
  have K0 : Keep (two ka h0.length) h h7 := (Kh.weak fun j _ e => .inl e).trans K3
  have k02 : h0.length < h2.length := M.keep.lt (at_lt at1)
  have t7 : h7[h2.length]? = some (O.tup [.str [c], .ref h.length, .ref k2']) := K6.at_ append_at (one_out k02)
  have rnew : (Mine.D.el c Dv D2 .nil).Rp h7 (h0.length + 1) h7.length [.ref h2.length] :=
    ⟨h2.length, h.length, k2', va, vs2, [], rfl, ⟨k02, at_lt t7⟩, ⟨k2, K3.lt Vi.kv_⟩, ⟨Nat.lt_of_lt_of_le (at_lt at1) M.lo, K5.lt M.hi⟩, t7, K3.at_ Vi.at_ (two_out k1 k2), K5.at_ M.at_ (one_out (Nat.lt_of_lt_of_le (at_lt at1) M.lo)),
      K3.rp (Nat.succ_le_succ (Nat.le_of_lt k2)) (Nat.le_refl _) (fun j a => two_out k1 (Nat.lt_trans k2 a)) Vi.rp, K5.rp (at_lt at1) (Nat.le_refl _) (fun j a => one_out (Nat.lt_of_lt_of_le (at_lt at1) a)) M.rp, rfl⟩
  have n1 : D.Dp (2 * q + 2) (.el c Dv D2 .nil) := ⟨⟨_, rfl, Vi.dp, M.num.1⟩, trivial⟩
  have n2 : D.Dv q (.el c Dv D2 .nil) := ⟨Vi.dv, M.num.2, trivial⟩
  refine ⟨B.app (.el c Dv D2 .nil), vs ++ [.ref h2.length], i2, h7, some (.ref h.length), x7', Nat.le_trans Vi.le M.le, ?_, ⟨k1, e7 ▸ set_self (at_lt at2), D.Rp.app rnew (K0.rp (Nat.le_refl _) (Nat.le_refl _) (fun j a => two_out k1 a) I.rp), D.Ok.el_end hcc Vi.ok M.ok (by decide) I.ok, by rw [List.length_append]; exact h6, Nat.le_trans I.le (Nat.le_trans Vi.le M.le), M.le2, K5.at_ M.cur (one_below k1), I.keep.via two_new K0, ⟨D.Dp.app n1 I.num.1, D.Dv.app n2 I.num.2⟩, ?_⟩⟩
  · rw [e7]
    exact x_cons (s_asg (e_list a_nil)) (x_cons (s_range (k := (x.fdiv 12).fmod 3) (e_bin (e_bin (e_loc rfl) e_cst (fdiv_of (by decide) (by decide))) e_cst (fmod_of (by decide))) hkl q1) (x_cons (s_app (e_loc rfl) (isL_of at1) (e_tup (a_cons (e_idx e_cst (e_bin (e_bin (e_loc rfl) e_cst (fdiv_of (by decide) (by decide))) e_cst (fmod_of (by decide))) hidx) (a_cons (e_loc rfl) (a_cons s2 a_nil)))) (appL_of at2 (Nat.lt_of_lt_of_le h6 (by decide)))) x_nil))
  · rw [D.cost_app]
    have a1 := Vi.cost
    rw [List.length_range, Nat.zero_add] at a1
    exact el_cost hc a1 M.cost hn2
end
end Mine

end

section
open PySem
namespace Mine
section
variable {X : Hp} {xs : List Int} {d ka q deep i0 : Nat} {h0 : Hp}
theorem eq_true' {X h : Hp} {a b : Int} (hab : a = b) : cmpop X h .Eq (.int a) (.int b) = some true := by
  show some (decide (a = b)) = _
  rw [decide_eq_true hab]
theorem eq_false' {X h : Hp} {a b : Int} (hab : ¬ a = b) : cmpop X h .Eq (.int a) (.int b) = some false := by
  show some (decide (a = b)) = _
  rw [decide_eq_false hab]
theorem len_map (O : XOk X xs) {h : Hp} : bcall X .len [.ext 0] h = some (.int (xs.length : Int), h) := by
  rw [len_ext O.s, List.length_map]
/-- how the document's loop ends -/
noncomputable def Ends (X : Hp) (xs : List Int) (d ka q i0 : Nat) (h0 : Hp) (m : M) (h : Hp) : Prop :=
  ∃ (B' : D) (vs' : List V) (i' : Nat) (h' : Hp) (f : Fl) (m' : M), Wh X (d + 1) whTest whBody m h f m' h' ∧ (f = .ret (.ref h0.length) ∨ (f = .next ∧ m'.getD 3 .none = some (.ref h0.length))) ∧ Made xs ka (Lv q) i0 h0 B' h0.length vs' i' h'
theorem doc_loop (O : XOk X xs) (hx : xs.length ≤ 63) (P : Sub X xs (d + 1) ka q deep) (hg : deep + q = 3) (r : Nat) : ∀ {B : D} {vs : List V} {i : Nat} {h : Hp} {x4 x5 x6 x7 : Option V}, xs.length ≤ i + r → DI xs ka q i0 h0 B vs i h → Ends X xs d ka q i0 h0 (DSt ka deep h0.length x4 x5 x6 x7) h := by
  have stop : ∀ {B : D} {vs : List V} {i : Nat} {h : Hp} {x4 x5 x6 x7 : Option V}, ¬ i < xs.length → DI xs ka q i0 h0 B vs i h → Ends X xs d ka q i0 h0 (DSt ka deep h0.length x4 x5 x6 x7) h := by
    intro B vs i h x4 x5 x6 x7 hi I
    exact ⟨B, vs, i, h, .next, _, w_stop (e_and_f (e_cmp (e_idx (e_loc rfl) e_cst (idx_list I.cur (by decide) rfl)) (e_bcall (a_cons (e_loc rfl) a_nil) (len_map O)) (lt_false fun e => hi (Int.ofNat_lt.mp e))) rfl) rfl, .inr ⟨rfl, rfl⟩, I.made⟩
  induction r with
  | zero => exact fun hr I => stop (Nat.not_lt.mpr hr) I
  | succ r ih =>
    intro B vs i h x4 x5 x6 x7 hr I
    by_cases hi : i < xs.length
    · have c1 : Ev X (d + 1) (.cmp .Lt (.idx (.loc 1 ⟨39, 10, 39, 12⟩) (.cst (.int 0) ⟨39, 13, 39, 14⟩) ⟨39, 10, 39, 15⟩) (.bcall .len ⟨39, 18, 39, 21⟩ (.cons (.loc 0 ⟨39, 22, 39, 28⟩) .nil) ⟨39, 18, 39, 29⟩) ⟨39, 10, 39, 29⟩) (DSt ka deep h0.length x4 x5 x6 x7) h (.bool true) h :=
        e_cmp (e_idx (e_loc rfl) e_cst (idx_list I.cur (by decide) rfl)) (e_bcall (a_cons (e_loc rfl) a_nil) (len_map O)) (lt_true (Int.ofNat_lt.mpr hi))
      by_cases h6 : vs.length < 6
      · have ct : Ev X (d + 1) whTest (DSt ka deep h0.length x4 x5 x6 x7) h (.bool true) h := e_and_t c1 rfl (e_cmp (e_bcall (a_cons (e_loc rfl) a_nil) (len_ref I.at_)) e_cst (lt_true (Int.ofNat_lt.mpr h6)))
        have hxi : (xs.map fun i => V.int i)[((i : Int)).toNat]? = some (.int xs[i]) := by
          rw [Int.toNat_natCast, List.getElem?_map, List.getElem?_eq_getElem hi]; rfl
        have I1 := I.took hi
        have hb : ∀ {f : Fl} {m' : M} {h' : Hp} {b : MSs}, whBody = .cons (.asg 4 ⟨40, 8, 40, 9⟩ (.bcall .abs ⟨40, 12, 40, 15⟩ (.cons (.idx (.loc 0 ⟨40, 16, 40, 22⟩) (.idx (.loc 1 ⟨40, 23, 40, 25⟩) (.cst (.int 0) ⟨40, 26, 40, 27⟩) ⟨40, 23, 40, 28⟩) ⟨40, 16, 40, 29⟩) .nil) ⟨40, 12, 40, 30⟩) ⟨40, 8, 40, 30⟩)
            (.cons (.sets (.loc 1 ⟨41, 8, 41, 10⟩) (.cst (.int 0) ⟨41, 11, 41, 12⟩) ⟨41, 8, 41, 13⟩ (.bin .Add (.idx (.loc 1 ⟨41, 16, 41, 18⟩) (.cst (.int 0) ⟨41, 19, 41, 20⟩) ⟨41, 16, 41, 21⟩) (.cst (.int 1) ⟨41, 24, 41, 25⟩) ⟨41, 16, 41, 25⟩) ⟨41, 8, 41, 25⟩) b) →
            Ex X (d + 1) b (DSt ka deep h0.length (some (.int (xs[i].natAbs : Nat))) x5 x6 x7) (h.set ka (.list [.int ((i + 1 : Nat) : Int)])) f m' h' → Ex X (d + 1) whBody (DSt ka deep h0.length x4 x5 x6 x7) h f m' h' := by
          intro f m' h' b e q
          rw [e]
          refine x_cons (s_asg (e_bcall (a_cons (e_idx (e_loc rfl) (e_idx (e_loc rfl) e_cst (idx_list I.cur (by decide) rfl)) (idx_ext O.s (Int.natCast_nonneg i) hxi)) a_nil) rfl)) (x_cons (s_sets (i := 0) (e_bin (e_idx (e_loc rfl) e_cst (idx_list I.cur (by decide) rfl)) e_cst rfl) (e_loc rfl) e_cst (setL_of I.cur (j := 0) rfl)) q)
        have hcost := cost_le I.cost
        have hr' : xs.length ≤ i + 1 + r := by rw [Nat.add_assoc, Nat.add_comm 1]; exact hr
        generalize xs[i].natAbs = x at hb
        generalize h.set ka (.list [.int ((i + 1 : Nat) : Int)]) = h1 at hb I1
        clear I c1 hxi
        by_cases m0 : ((x : Nat) : Int).fmod 4 = 0
        · exact ⟨B, vs, i + 1, _, .ret (.ref h0.length), _, w_ret ct rfl (hb rfl (x_ret (s_ite_t (e_cmp (e_bin (e_loc rfl) e_cst (fmod_of (by decide))) e_cst (eq_true' m0)) rfl (x_ret (s_ret (e_loc rfl)))))), .inl rfl, I1.made⟩
        · by_cases m3 : ((x : Nat) : Int).fmod 4 < 3
          · obtain ⟨B', vs', h', x5', q1, q2⟩ := txt_turn (X := X) (d := d) (deep := deep) (x := ((x : Nat) : Int)) (x5 := x5) (x6 := x6) (x7 := x7) I1 hx h6 hcost
            obtain ⟨B2, vs2, i2, h2, f, m', s1, s2, s3⟩ := ih (x4 := some (.int ((x : Nat) : Int))) (x5 := x5') (x6 := x6) (x7 := x7) hr' q2
            exact ⟨B2, vs2, i2, h2, f, m', w_next ct rfl (hb rfl (x_cons (s_ite_f (e_cmp (e_bin (e_loc rfl) e_cst (fmod_of (by decide))) e_cst (eq_false' m0)) rfl x_nil) (x_cons (s_ite_t (e_cmp (e_bin (e_loc rfl) e_cst (fmod_of (by decide))) e_cst (lt_true m3)) rfl q1) x_nil))) s1, s2, s3⟩
          · obtain ⟨B', vs', i', h', x6', x7', hii, q1, q2⟩ := el_turn (X := X) (d := d) (x := ((x : Nat) : Int)) (x5 := x5) (x6 := x6) (x7 := x7) P hg I1 h6 hcost
            obtain ⟨B2, vs2, i2, h2, f, m', s1, s2, s3⟩ := ih (x4 := some (.int ((x : Nat) : Int))) (x5 := x5) (x6 := x6') (x7 := x7') (Nat.le_trans hr' (Nat.add_le_add_right hii r)) q2
            exact ⟨B2, vs2, i2, h2, f, m', w_next ct rfl (hb rfl (x_cons (s_ite_f (e_cmp (e_bin (e_loc rfl) e_cst (fmod_of (by decide))) e_cst (eq_false' m0)) rfl x_nil) (x_cons (s_ite_f (e_cmp (e_bin (e_loc rfl) e_cst (fmod_of (by decide))) e_cst (lt_false m3)) rfl q1) x_nil))) s1, s2, s3⟩
      · exact ⟨B, vs, i, h, .next, _, w_stop (e_and_t c1 rfl (e_cmp (e_bcall (a_cons (e_loc rfl) a_nil) (len_ref I.at_)) e_cst (lt_false fun e => h6 (Int.ofNat_lt.mp e)))) rfl, .inr ⟨rfl, rfl⟩, I.made⟩
    · exact stop hi I

theorem doc_of (O : XOk X xs) (hx : xs.length ≤ 63) (P : Sub X xs (d + 1) ka q deep) (hg : deep + q = 3) {h : Hp} {i : Nat} (hka : ka < h.length) (hc : h[ka]? = some (.list [.int (i : Int)])) (hi : i ≤ xs.length) :
    ∃ D k vs i' h', Cl X (d + 2) 5 [.ext 0, .ref ka, .int (deep : Int)] h (.ref k) h' ∧ Made xs ka (Lv q) i h D k vs i' h' := by
  have I0 : DI xs ka q i h .nil [] i (h ++ [.list []]) := ⟨hka, append_at, rfl, trivial, Nat.zero_le _, Nat.le_refl _, hi, (append_below hka).trans hc, Keep.app, ⟨trivial, trivial⟩, Nat.le_of_eq (Nat.zero_add _)⟩
  obtain ⟨B, vs, i', h', f, m', q1, q2, q3⟩ := doc_loop (d := d) (deep := deep) (x4 := none) (x5 := none) (x6 := none) (x7 := none) O hx P hg xs.length (Nat.le_add_left _ _) I0
  refine ⟨B, h.length, vs, i', h', c_is (fn := ⟨3, 8, b_law_document, none⟩) (m1 := m') rfl rfl (x_cons (s_asg (e_list a_nil)) ?_), q3⟩
  rcases q2 with rfl | ⟨rfl, hm⟩
  · exact x_ret (s_while q1)
  · exact x_cons (s_while q1) (x_ret (s_ret (e_loc hm)))
theorem c_document (O : XOk X xs) (hx : xs.length ≤ 63) (q : Nat) : ∀ {deep : Nat}, deep + q = 3 → ∀ (h : Hp) (i : Nat), ka < h.length → h[ka]? = some (.list [.int (i : Int)]) → i ≤ xs.length →
    ∃ D k vs i' h', Cl X (d + q + 2) 5 [.ext 0, .ref ka, .int (deep : Int)] h (.ref k) h' ∧ Made xs ka (Lv q) i h D k vs i' h' := by
  induction q with
  | zero => exact fun hg h i a b c => doc_of O hx (fun p e => (Nat.succ_ne_zero _ e.symm).elim) hg a b c
  | succ q ih => exact fun {deep} hg h i a b c => doc_of O hx (fun p e h i a b c => by cases e; exact ih ((Nat.add_right_comm deep 1 q).trans hg) h i a b c) hg a b c
end
end Mine

end

section
open PySem
namespace Mine
noncomputable def wBody : MSs := match b_law_written with
  | .cons _ (.cons (.for1 _ _ _ b _) _) => b
  | _ => .nil
noncomputable def wvBody : MSs := match wBody with
  | .cons (.ite _ _ (.cons _ (.cons _ (.cons (.for2 _ _ _ _ _ _ b _) _))) _) _ => b
  | _ => .nil
section
variable {X : Hp} {xs : List Int}
/-- the writing of items -/
noncomputable def WA (X : Hp) (d : Nat) (D : D) : Prop := ∀ (vs : List V) (h : Hp) (lo hi kl : Nat) (all : List V) (t : List Nat) (k0 : V) (x2 x3 x4 x5 x6 x7 : Option V), D.Rp h lo hi vs → hi ≤ h.length → h[kl]? = some (.list all) → (t ++ D.wr).length ≤ 2000000 →
  ∃ (g : Hp) (y2 y3 y4 y5 y6 y7 : Option V), For X d (fun h' => decide (h'[kl]? = some (.list all))) (st1 2) wBody vs [some k0, some (.str t), x2, x3, x4, x5, x6, x7] h .next [some k0, some (.str (t ++ D.wr)), y2, y3, y4, y5, y6, y7] (h ++ g)
/-- the writing of values -/
noncomputable def WB (X : Hp) (d : Nat) (D : D) : Prop := ∀ (vs : List V) (h : Hp) (lo hi kl : Nat) (all : List V) (t : List Nat) (x0 x2 x3 x4 x5 x6 x7 : Option V), D.Rp h lo hi vs → hi ≤ h.length → h[kl]? = some (.list all) → (t ++ D.wr).length ≤ 2000000 →
  ∃ (g : Hp) (y6 y7 : Option V), For X d (fun h' => decide (h'[kl]? = some (.list all))) (st2 X 6 7) wvBody vs [x0, some (.str t), x2, x3, x4, x5, x6, x7] h .next [x0, some (.str (t ++ D.wr)), x2, x3, x4, x5, y6, y7] (h ++ g)
theorem at_app {h g : Hp} {k : Nat} {o : O} (e : h[k]? = some o) : (h ++ g)[k]? = some o := (append_below (at_lt e)).trans e
theorem Rp_app {h g : Hp} {lo hi : Nat} {D : D} {vs : List V} (hh : hi ≤ h.length) (r : D.Rp h lo hi vs) : D.Rp (h ++ g) lo hi vs := r.mono (Nat.le_refl _) (Nat.le_refl _) fun j a b => append_below (Nat.lt_of_lt_of_le b hh)
theorem le_app {h g : Hp} {n : Nat} (hn : n ≤ h.length) : n ≤ (h ++ g).length := by rw [List.length_append]; exact Nat.le_trans hn (Nat.le_add_right _ _)
theorem pre_le {x y : List Nat} {K : Nat} (h : (x ++ y).length ≤ K) : x.length ≤ K := by rw [List.length_append] at h; exact Nat.le_trans (Nat.le_add_right _ _) h
theorem suf_le {x y : List Nat} {K : Nat} (h : (x ++ y).length ≤ K) : y.length ≤ K := by rw [List.length_append] at h; exact Nat.le_trans (Nat.le_add_left _ _) h
theorem add_of {x y : List Nat} (h : (x ++ y).length ≤ 2000000) : binop .Add (.str x) (.str y) = some (.str (x ++ y)) := add_str (by rw [List.length_append] at h; exact Nat.le_trans h (by decide))
theorem pred_of {n d : Nat} (h : n + 1 ≤ d) : ∃ e, d = e + 1 ∧ n ≤ e := by
  cases d with
  | zero => exact absurd h (Nat.not_succ_le_zero _)
  | succ d => exact ⟨d, rfl, Nat.le_of_succ_le_succ h⟩
theorem cost_el {a b r K : Nat} (h : 7 + a + b + r ≤ K) : a ≤ K ∧ b ≤ K ∧ r ≤ K := by omega
theorem cost_val {e r K : Nat} (h : 5 + e + r ≤ K) : e ≤ K ∧ r ≤ K := by omega
theorem cost_txt {l r : Nat} (h : 5 * l + r ≤ 5670) : l ≤ 300000 ∧ r ≤ 5670 := by omega
/-- a value's document is not long -/
theorem val_len {q : Nat} {e : D} (h : e = .nil ∨ ∃ j, q = j + 1 ∧ e.Dv j) (hq : q ≤ 3) (hc : e.cost ≤ 5670) : e.wr.length ≤ 300000 ∧ ∃ p, e.Dv p ∧ p ≤ 3 := by
  rcases h with rfl | ⟨j, rfl, h⟩
  · exact ⟨Nat.zero_le _, 0, trivial, Nat.zero_le _⟩
  · have hj : j ≤ 2 := Nat.le_of_succ_le_succ hq
    refine ⟨Nat.le_trans (D.wr_len h) (Nat.le_trans (Nat.mul_le_mul (Nat.pow_le_pow_right (by decide) hj) hc) (by decide)), j, h, Nat.le_succ_of_le hj⟩
theorem c_written_of {d : Nat} {D : D} (w : WA X d D) {vs : List V} {h : Hp} {lo hi k : Nat} (r : D.Rp h lo hi vs) (hh : hi ≤ h.length) (hk : h[k]? = some (.list vs)) (hl : D.wr.length ≤ 2000000) : ∃ g, Cl X (d + 1) 6 [.ref k] h (.str D.wr) (h ++ g) := by
  obtain ⟨g, y2, y3, y4, y5, y6, y7, q⟩ := w vs h lo hi k vs [] (.ref k) none none none none none none r hh hk hl
  refine ⟨g, c_is (fn := ⟨1, 8, b_law_written, none⟩) rfl rfl (x_cons (s_asg e_cst) (x_cons (s_for (e_loc rfl) hk (fun _ _ _ _ e => by cases e) q) (x_ret (s_ret (e_loc rfl)))))⟩

theorem written (O : XOk X xs) {D : D} : ∀ {d k q : Nat}, D.Dp k → k + 3 ≤ d → D.Dv q → q ≤ 3 → D.cost ≤ 5670 → (∀ {m : Nat}, m ≠ 2 → D.Ok m → WA X d D) ∧ (D.Ok 2 → WB X d D) := by
  induction D with
  | nil =>
    intro d k q _ _ _ _ _
    constructor
    · intro m _ _ vs h lo hi kl all t k0 x2 x3 x4 x5 x6 x7 r _ hk _
      cases r
      exact ⟨[], x2, x3, x4, x5, x6, x7, by rw [List.append_nil, show t ++ D.nil.wr = t from List.append_nil t]; exact f_nil (decide_eq_true hk)⟩
    · intro _ vs h lo hi kl all t x0 x2 x3 x4 x5 x6 x7 r _ hk _
      cases r
      exact ⟨[], x6, x7, by rw [List.append_nil, show t ++ D.nil.wr = t from List.append_nil t]; exact f_nil (decide_eq_true hk)⟩
  | txt l R ih =>
    intro d k q dp hd dv hq hc
    refine ⟨fun {m} hm ok => ?_, fun ok => absurd ok.1 (by decide)⟩
    intro vs h lo hi kl all t k0 x2 x3 x4 x5 x6 x7 r hh hk hl
    obtain ⟨w, rfl, r⟩ := r
    obtain ⟨c1, c2⟩ := cost_txt hc
    have he : t ++ E3 l ++ R.wr = t ++ (D.txt l R).wr := List.append_assoc _ _ _
    rw [← he] at hl
    obtain ⟨g, y2, y3, y4, y5, y6, y7, q⟩ := (ih dp hd dv hq c2).1 (by decide) ok.2.2 w h lo hi kl all (t ++ E3 l) k0 (some (.str l)) x3 x4 x5 x6 x7 r hh hk hl
    obtain ⟨d, rfl, hd1⟩ := pred_of hd
    obtain ⟨d, rfl, hd2⟩ := pred_of hd1
    rw [he] at q
    refine ⟨g, y2, y3, y4, y5, y6, y7, f_cons (decide_eq_true hk) rfl ?_ q⟩
    exact x_cons (s_ite_t (e_isStr_t (e_loc rfl)) rfl (x_cons (s_asg (e_bin (e_loc rfl) (e_call (a_cons (e_loc rfl) a_nil) (c_escape O c1)) (add_of (pre_le hl)))) x_nil)) x_nil
  | el n a b R iha ihb ihr =>
    intro d k q dp hd dv hq hc
    refine ⟨fun {m} hm ok => ?_, fun ok => absurd rfl ok.1⟩
    intro vs h lo hi kl all t k0 x2 x3 x4 x5 x6 x7 r hh hk hl
    obtain ⟨k1, i, j, va, vb, w, rfl, _, _, _, e1, e2, e3, r1, r2, r3⟩ := r
    obtain ⟨ca, cb, cr⟩ := cost_el hc
    have ht := fun vs h => (ihr dp.2 hd dv.2.2 hq cr).1 (by decide) ok.2.2.2.2 vs h
    obtain ⟨⟨k, rfl, da, db⟩, _⟩ := dp
    obtain ⟨d, rfl, hd1⟩ := pred_of hd
    have he : t ++ lit "<" ++ [n] ++ a.wr ++ lit ">" ++ b.wr ++ lit "</" ++ [n] ++ lit ">" ++ R.wr = t ++ (D.el n a b R).wr := by
      rw [show lit "<" = [60] from rfl, show lit ">" = [62] from rfl, show lit "</" = [60, 47] from rfl]
      simp [D.wr]
    rw [← he] at hl
    have g8 := pre_le hl
    have g7 := pre_le g8
    have g6 := pre_le g7
    have g5 := pre_le g6
    have g4 := pre_le g5
    have g3 := pre_le g4
    have g2 := pre_le g3
    obtain ⟨q', hb', hq'⟩ := (val_len dv.2.1 hq cb).2
    obtain ⟨h1, z6, z7, q1⟩ := (iha da (Nat.succ_le_succ (Nat.le_of_succ_le hd1)) dv.1 hq ca).2 ok.2.2.1 va h lo hi i va (t ++ lit "<" ++ [n]) (some k0) (some (.ref k1)) (some (.str [n])) (some (.ref i)) (some (.ref j)) x6 x7 r1 hh e2 g3
    obtain ⟨h2, cw⟩ := c_written_of ((ihb db (Nat.le_of_succ_le hd1) hb' hq' cb).1 (by decide) ok.2.2.2.1) (h := h ++ h1) (Rp_app hh r2) (le_app hh) (at_app e3) (suf_le g5)
    obtain ⟨h3, y2, y3, y4, y5, y6, y7, q3⟩ := ht w (h ++ h1 ++ h2) lo hi kl all _ k0 (some (.ref k1)) (some (.str [n])) (some (.ref i)) (some (.ref j)) z6 z7 (Rp_app (le_app hh) (Rp_app hh r3)) (le_app (le_app hh)) (at_app (at_app hk)) hl
    rw [he] at q3
    refine ⟨h1 ++ h2 ++ h3, y2, y3, y4, y5, y6, y7, ?_⟩
    rw [← List.append_assoc, ← List.append_assoc]
    refine f_cons (decide_eq_true hk) rfl ?_ q3
    exact x_cons (s_ite_f (e_isStr_f (e_loc rfl) e1) rfl (x_cons (s_unp3 (e_loc rfl) (show obj X h (.ref k1) = _ from e1)) (x_cons (s_asg (e_bin (e_bin (e_loc rfl) e_cst (add_of (pre_le g2))) (e_loc rfl) (add_of g2))) (x_cons (s_for2 (e_loc rfl) e2 (fun _ _ _ _ e => by cases e) q1) (x_cons (s_asg
      (e_bin (e_bin (e_bin (e_bin (e_bin (e_loc rfl) e_cst (add_of g4)) (e_call (a_cons (e_loc rfl) a_nil) cw) (add_of g5)) e_cst (add_of g6)) (e_loc rfl) (add_of g7)) e_cst (add_of g8))) x_nil))))) x_nil
  | val c e R ihe ihr =>
    intro d k q dp hd dv hq hc
    refine ⟨fun {m} hm ok => absurd ok.1 hm, fun ok => ?_⟩
    intro vs h lo hi kl all t x0 x2 x3 x4 x5 x6 x7 r hh hk hl
    obtain ⟨k1, i, va, w, rfl, _, _, e1, e2, r1, r2⟩ := r
    obtain ⟨ce, cr⟩ := cost_val hc
    have ht := fun vs h => (ihr dp.2 hd dv.2 hq cr).2 ok.2.2.2 vs h
    obtain ⟨⟨k, rfl, de⟩, _⟩ := dp
    obtain ⟨d, rfl, hde⟩ := pred_of hd
    obtain ⟨d, rfl, hd2⟩ := pred_of hde
    obtain ⟨d, rfl, hd3⟩ := pred_of hd2
    obtain ⟨l3, q', hb', hq'⟩ := val_len dv.1 hq ce
    have he : t ++ lit " " ++ [c] ++ lit "=" ++ W3 e.wr ++ R.wr = t ++ (D.val c e R).wr := by
      rw [show lit " " = [32] from rfl, show lit "=" = [61] from rfl]
      simp [D.wr]
    rw [← he] at hl
    have g4 := pre_le hl
    have g3 := pre_le g4
    have g2 := pre_le g3
    obtain ⟨h1, cw⟩ := c_written_of ((ihe de hde hb' hq' ce).1 (by decide) ok.2.2.1) r1 hh e2 (Nat.le_trans l3 (by decide))
    have cq := c_quoteattr (X := X) (d := d) (h := h ++ h1) O l3
    obtain ⟨h3, y6, y7, q3⟩ := ht w (h ++ h1 ++ [.dict true 3 (encd whites)]) lo hi kl all _ x0 x2 x3 x4 x5 (some (.str [c])) (some (.ref i)) (Rp_app (le_app hh) (Rp_app hh r2)) (le_app (le_app hh)) (at_app (at_app hk)) hl
    rw [he] at q3
    refine ⟨h1 ++ [.dict true 3 (encd whites)] ++ h3, y6, y7, ?_⟩
    rw [← List.append_assoc, ← List.append_assoc]
    refine f_cons (decide_eq_true hk) (show st2 X 6 7 (.ref k1) _ h = _ from by unfold st2; rw [show obj X h (.ref k1) = _ from e1]) ?_ q3
    exact x_cons (s_asg (e_bin (e_bin (e_bin (e_bin (e_loc rfl) e_cst (add_of (pre_le g2))) (e_loc rfl) (add_of g2)) e_cst (add_of g3)) (e_call (a_cons (e_call (a_cons (e_loc rfl) a_nil) cw) a_nil) cq) (add_of g4))) x_nil
end
end Mine

end

section
open PySem
namespace Mine
section
variable {X : Hp} {xs : List Int}
noncomputable def oBody : MSs := match b_law_outer with
  | .cons _ (.cons (.for1 _ _ _ b _) _) => b
  | _ => .nil
/-- counting elements -/
noncomputable def OA (X : Hp) (d : Nat) (D : D) : Prop := ∀ (vs : List V) (h : Hp) (lo hi kl : Nat) (all : List V) (c : Nat) (k0 : V) (x2 : Option V), D.Rp h lo hi vs → h[kl]? = some (.list all) →
  ∃ (y2 : Option V), For X d (fun h' => decide (h'[kl]? = some (.list all))) (st1 2) oBody vs [some k0, some (.int (c : Int)), x2] h .next [some k0, some (.int ((c + D.outer : Nat) : Int)), y2] h
theorem c_outer_of {d : Nat} {D : D} (w : OA X d D) {vs : List V} {h : Hp} {lo hi k : Nat} (r : D.Rp h lo hi vs) (hk : h[k]? = some (.list vs)) : Cl X (d + 1) 9 [.ref k] h (.int (D.outer : Int)) h := by
  obtain ⟨y2, q⟩ := w vs h lo hi k vs 0 (.ref k) none r hk
  rw [Nat.zero_add] at q
  exact c_is (fn := ⟨1, 3, b_law_outer, none⟩) rfl rfl (x_cons (s_asg e_cst) (x_cons (s_for (e_loc rfl) hk (fun _ _ _ _ e => by cases e) q) (x_ret (s_ret (e_loc rfl)))))
theorem counted {D : D} : ∀ {d k m : Nat}, D.Dp k → k ≤ d → m ≠ 2 → D.Ok m → OA X d D := by
  induction D with
  | nil =>
    intro d k m _ _ _ _ vs h lo hi kl all c k0 x2 r hk
    cases r
    exact ⟨x2, f_nil (decide_eq_true hk)⟩
  | txt l R ih =>
    intro d k m dp hd _ ok vs h lo hi kl all c k0 x2 r hk
    obtain ⟨w, rfl, r⟩ := r
    obtain ⟨y2, q⟩ := ih dp hd (by decide) ok.2.2 w h lo hi kl all c k0 (some (.str l)) r hk
    exact ⟨y2, f_cons (decide_eq_true hk) rfl (x_cons (s_ite_f (e_not (e_isStr_t (e_loc rfl)) rfl) rfl x_nil) x_nil) q⟩
  | el n a b R _ ihb ihr =>
    intro d k m dp hd _ ok vs h lo hi kl all c k0 x2 r hk
    obtain ⟨k1, i, j, va, vb, w, rfl, _, _, _, e1, e2, e3, r1, r2, r3⟩ := r
    have ht := fun c => ihr dp.2 hd (by decide) ok.2.2.2.2 w h lo hi kl all c k0 (some (.ref k1)) r3 hk
    obtain ⟨⟨k, rfl, da, db⟩, _⟩ := dp
    obtain ⟨d, rfl, hd1⟩ := pred_of hd
    have cb := c_outer_of (ihb db (Nat.le_of_succ_le hd1) (by decide) ok.2.2.2.1) r2 e3
    obtain ⟨y2, q⟩ := ht (c + 1 + b.outer)
    have he : c + 1 + b.outer + R.outer = c + (D.el n a b R).outer := by rw [Nat.add_assoc c 1, Nat.add_assoc]; rfl
    rw [he] at q
    have hb : Ex X (d + 1) oBody [some k0, some (.int (c : Int)), some (.ref k1)] h .next [some k0, some (.int ((c + 1 + b.outer : Nat) : Int)), some (.ref k1)] h := by
      refine x_cons (s_ite_t (e_not (e_isStr_f (e_loc rfl) e1) rfl) rfl (x_cons (s_asg (v := .int ((c + 1 + b.outer : Nat) : Int)) ?_) x_nil)) x_nil
      exact e_bin (e_bin (e_loc rfl) e_cst rfl) (e_call (a_cons (e_idx (e_loc rfl) e_cst (idx_tup e1 (by decide) rfl)) a_nil) cb) rfl
    exact ⟨y2, f_cons (decide_eq_true hk) rfl hb q⟩
  | val _ _ _ _ _ => exact fun _ _ hm ok => absurd ok.1 hm
end

/-! reading -/
theorem slc_nat (T : List Nat) (i j : Nat) : slc T (some (i : Int)) (some (j : Int)) = (T.drop i).take (j - i) := by
  have hc : ∀ k : Nat, clamp (k : Int) T.length = min k T.length := fun k => by
    unfold clamp
    rw [if_neg (by omega), Int.toNat_natCast]
  unfold slc
  simp only [Option.map_some, Option.getD_some, hc]
  have h1 : T.take (min j T.length) = T.take j := by
    rcases Nat.le_total j T.length with h | h
    · rw [Nat.min_eq_left h]
    · rw [Nat.min_eq_right h, List.take_length, List.take_of_length_le h]
  rw [h1, List.drop_take]
  rcases Nat.le_total i T.length with h | h
  · rw [Nat.min_eq_left h]
  · rw [Nat.min_eq_right h, List.drop_length, List.drop_eq_nil_of_le h]; simp
theorem fst1_at {c : Nat} {r : List Nat} : ∀ {a : List Nat}, c ∉ a → fst1 c (a ++ c :: r) = some a.length
  | [], _ => by show (if c = c then _ else _) = _; rw [if_pos rfl]; rfl
  | x :: a, h => by
    have hx : ¬ x = c := fun e => h (e ▸ .head _)
    rw [List.cons_append]
    unfold fst1
    rw [if_neg hx, fst1_at fun q => h (.tail _ q)]; rfl
theorem fst1_no {c : Nat} : ∀ {a : List Nat}, c ∉ a → fst1 c a = none
  | [], _ => rfl
  | x :: a, h => by
    have hx : ¬ x = c := fun e => h (e ▸ .head _)
    show (if x = c then _ else _) = _
    rw [if_neg hx, fst1_no fun q => h (.tail _ q)]; rfl
section
variable {X : Hp} {d : Nat} {m : M} {h h1 h2 h3 : Hp} {ka i j : Nat} {p p1 p2 p3 p4 p5 : Pos} {e : ME}
theorem e_at (hm : m.getD 1 .none = some (.ref ka)) (hc : h[ka]? = some (.list [.int (i : Int)])) : Ev X d (.idx (.loc 1 p1) (.cst (.int 0) p2) p) m h (.int (i : Int)) h := e_idx (e_loc hm) e_cst (idx_list hc (by decide) rfl)
theorem e_addn {ci : Int} (c : Nat) (hc : ci = c) (a : Ev X d e m h (.int (i : Int)) h1) : Ev X d (.bin .Add e (.cst (.int ci) p1) p) m h (.int ((i + c : Nat) : Int)) h1 := by
  subst hc
  exact e_bin a e_cst rfl
theorem e_slc {T : List Nat} {x lo hi : ME} (hT : Ev X d x m h (.str T) h) (a : Ev X d lo m h (.int (i : Int)) h) (b : Ev X d hi m h (.int (j : Int)) h) : Ev X d (.slice x (.yes lo) (.yes hi) p1 p) m h (.str ((T.drop i).take (j - i))) h := by
  have := e_slice (p := p) (sp := p1) hT (o_yes a) (o_yes b)
  rw [slc_nat] at this
  exact this
theorem s_at (hm : m.getD 1 .none = some (.ref ka)) (a : Ev X d e m h (.int (j : Int)) h) (hc : h[ka]? = some (.list [.int (i : Int)])) : Sx X d (.sets (.loc 1 p1) (.cst (.int 0) p2) p3 e p) m h .next m (h.set ka (.list [.int (j : Int)])) :=
  s_sets (i := 0) a (e_loc hm) e_cst (setL_of hc (j := 0) rfl)
theorem ne_str {a b : List Nat} (hab : a ≠ b) : cmpop X h .NotEq (.str a) (.str b) = some true := by
  show some (!decide (a = b)) = _
  rw [decide_eq_false hab]; rfl
theorem ne_str' {a b : List Nat} (hab : a = b) : cmpop X h .NotEq (.str a) (.str b) = some false := by
  show some (!decide (a = b)) = _
  rw [decide_eq_true hab]; rfl
theorem eq_str {a b : List Nat} (hab : a = b) : cmpop X h .Eq (.str a) (.str b) = some true := by
  show some (decide (a = b)) = _
  rw [decide_eq_true hab]
theorem eq_str' {a b : List Nat} (hab : a ≠ b) : cmpop X h .Eq (.str a) (.str b) = some false := by
  show some (decide (a = b)) = _
  rw [decide_eq_false hab]
theorem find_of {T : List Nat} {c : Nat} (hi : i ≤ T.length) : meth X .find (.str T) [.str [c], .int (i : Int)] h = some (.int (match fst1 c (T.drop i) with | some k => (i : Int) + k | .none => -1), h) := by
  show (if (0 : Int) ≤ (i : Int) ∧ (i : Int) ≤ T.length then _ else _) = _
  rw [if_pos ⟨Int.natCast_nonneg i, by omega⟩]
  rfl
theorem len_str {T : List Nat} : bcall X .len [.str T] h = some (.int (T.length : Int), h) := rfl
theorem drop_more {T A B : List Nat} {i : Nat} (hd : T.drop i = A ++ B) : T.drop (i + A.length) = B := by
  rw [← List.drop_drop, hd, List.drop_left]
theorem drop_le {T A B : List Nat} {i : Nat} (hi : i ≤ T.length) (hd : T.drop i = A ++ B) : i + A.length ≤ T.length := by
  have := congrArg List.length hd
  rw [List.length_drop, List.length_append] at this
  omega
theorem drop_cons {T B : List Nat} {i c : Nat} (hd : T.drop i = c :: B) : T.drop (i + 1) = B := drop_more (A := [c]) hd
theorem drop_lt {T B : List Nat} {i c : Nat} (hd : T.drop i = c :: B) : i < T.length := by
  rcases Nat.lt_or_ge i T.length with q | q
  · exact q
  · rw [List.drop_eq_nil_of_le q] at hd; cases hd
theorem drop_at {T B : List Nat} {i c : Nat} (hd : T.drop i = c :: B) : T[i]? = some c := by
  have : (T.drop i)[0]? = some c := by rw [hd]; rfl
  rwa [List.getElem?_drop, Nat.add_zero] at this
end
end Mine

end

section
open PySem
namespace Mine
noncomputable def rTest : ME := match b_law_read with
  | .cons _ (.cons (.while t _ _) _) => t
  | _ => .loc 0 default
noncomputable def rBody : MSs := match b_law_read with
  | .cons _ (.cons (.while _ b _) _) => b
  | _ => .nil
noncomputable def rTxt : MSs := match rBody with
  | .cons (.ite _ b _ _) _ => b
  | _ => .nil
noncomputable def rEl : MSs := match rBody with
  | .cons (.ite _ _ b _) _ => b
  | _ => .nil
noncomputable def rvTest : ME := match rEl with
  | .cons _ (.cons _ (.cons _ (.cons (.while t _ _) _))) => t
  | _ => .loc 0 default
noncomputable def rvBody : MSs := match rEl with
  | .cons _ (.cons _ (.cons _ (.cons (.while _ b _) _))) => b
  | _ => .nil
/-- where a reader of items stops -/
noncomputable def Stop (post : List Nat) : Prop := post = [] ∨ ∃ r, post = 60 :: 47 :: r
section
variable {X : Hp} {xs : List Int}
noncomputable def RA (X : Hp) (d : Nat) (D : D) : Prop := ∀ (T post : List Nat) (i ka kl : Nat) (vs0 : List V) (D0 : Mine.D) (h : Hp) (x3 x4 x5 x6 x7 x8 : Option V), T.drop i = D.wr ++ post → i ≤ T.length → Stop post → T.length ≤ 2000000 → vs0.length ≤ i → ka < kl → h[ka]? = some (.list [.int (i : Int)]) → h[kl]? = some (.list vs0) → D0.Rp h (kl + 1) h.length vs0 →
  ∃ (vs' : List V) (h' : Hp) (j : Nat) (y3 y4 y5 y6 y7 y8 : Option V), Wh X d rTest rBody [some (.str T), some (.ref ka), some (.ref kl), x3, x4, x5, x6, x7, x8] h .next [some (.str T), some (.ref ka), some (.ref kl), y3, y4, y5, y6, y7, y8] h' ∧ Keep (two ka kl) h h' ∧
    T.drop j = post ∧ j ≤ T.length ∧ i ≤ j ∧ h'[ka]? = some (.list [.int (j : Int)]) ∧ h'[kl]? = some (.list vs') ∧ (D0.app D).Rp h' (kl + 1) h'.length vs'
noncomputable def RB (X : Hp) (d : Nat) (D : D) : Prop := ∀ (T post : List Nat) (i ka kv : Nat) (vs0 : List V) (D0 : Mine.D) (h : Hp) (x2 x3 x4 x6 x7 x8 : Option V), T.drop i = D.wr ++ post → i ≤ T.length → (∃ c r, post = c :: r ∧ c ≠ 32) → T.length ≤ 2000000 → vs0.length ≤ i → ka < kv → h[ka]? = some (.list [.int (i : Int)]) → h[kv]? = some (.list vs0) → D0.Rp h (kv + 1) h.length vs0 →
  ∃ (vs' : List V) (h' : Hp) (j : Nat) (y3 y6 y7 : Option V), Wh X d rvTest rvBody [some (.str T), some (.ref ka), x2, x3, x4, some (.ref kv), x6, x7, x8] h .next [some (.str T), some (.ref ka), x2, y3, x4, some (.ref kv), y6, y7, x8] h' ∧ Keep (two ka kv) h h' ∧
    T.drop j = post ∧ j ≤ T.length ∧ i ≤ j ∧ h'[ka]? = some (.list [.int (j : Int)]) ∧ h'[kv]? = some (.list vs') ∧ (D0.app D).Rp h' (kv + 1) h'.length vs'

theorem c_read_of {d : Nat} {D : D} (w : RA X d D) {T post : List Nat} {i ka : Nat} {h : Hp} (hd : T.drop i = D.wr ++ post) (hi : i ≤ T.length) (hp : Stop post) (hT : T.length ≤ 2000000) (hc : h[ka]? = some (.list [.int (i : Int)])) :
    ∃ (k : Nat) (vs : List V) (h' : Hp) (j : Nat), Cl X (d + 1) 8 [.str T, .ref ka] h (.ref k) h' ∧ Keep (one ka) h h' ∧ h.length ≤ k ∧ h'[k]? = some (.list vs) ∧ D.Rp h' h.length h'.length vs ∧ T.drop j = post ∧ j ≤ T.length ∧ i ≤ j ∧ h'[ka]? = some (.list [.int (j : Int)]) := by
  obtain ⟨vs, h', j, y3, y4, y5, y6, y7, y8, q1, q2, q3, q4, q5, q6, q7, q8⟩ := w T post i ka h.length [] .nil (h ++ [.list []]) none none none none none none hd hi hp hT (Nat.zero_le _) (at_lt hc) ((append_below (at_lt hc)).trans hc) append_at rfl
  exact ⟨h.length, vs, h', j, c_is (fn := ⟨2, 9, b_law_read, none⟩) rfl rfl (x_cons (s_asg (e_list a_nil)) (x_cons (s_while q1) (x_ret (s_ret (e_loc rfl))))), (Keep.app (g := [.list []])).via two_new q2, Nat.le_refl _, q7, Mine.D.Rp.mono (Nat.le_succ _) (Nat.le_refl _) (fun _ _ _ => rfl) q8, q3, q4, q5, q6⟩

theorem test_on {d : Nat} {T : List Nat} {i ka c : Nat} {r : List Nat} {x2 x3 x4 x5 x6 x7 x8 : Option V} {h : Hp} (hd : T.drop i = c :: r) (hne : (c :: r).take 2 ≠ [60, 47]) (hc : h[ka]? = some (.list [.int (i : Int)])) : Ev X d rTest [some (.str T), some (.ref ka), x2, x3, x4, x5, x6, x7, x8] h (.bool true) h := by
  refine e_and_t (e_cmp (e_at rfl hc) (e_bcall (a_cons (e_loc rfl) a_nil) len_str) (lt_true (Int.ofNat_lt.mpr (drop_lt hd)))) rfl (e_cmp (e_slc (e_loc rfl) (e_at rfl hc) (e_addn 2 rfl (e_at rfl hc))) e_cst (ne_str ?_))
  rw [hd, Nat.add_sub_cancel_left]
  exact hne
theorem test_off {d : Nat} {T : List Nat} {i ka : Nat} {post : List Nat} {x2 x3 x4 x5 x6 x7 x8 : Option V} {h : Hp} (hd : T.drop i = post) (hp : Stop post) (hc : h[ka]? = some (.list [.int (i : Int)])) : Ev X d rTest [some (.str T), some (.ref ka), x2, x3, x4, x5, x6, x7, x8] h (.bool false) h := by
  rcases hp with rfl | ⟨r, rfl⟩
  · have hi : T.length ≤ i := by
      have := congrArg List.length hd
      rw [List.length_drop, List.length_nil] at this
      omega
    exact e_and_f (e_cmp (e_at rfl hc) (e_bcall (a_cons (e_loc rfl) a_nil) len_str) (lt_false fun e => Nat.not_lt.mpr hi (Int.ofNat_lt.mp e))) rfl
  · refine e_and_t (e_cmp (e_at rfl hc) (e_bcall (a_cons (e_loc rfl) a_nil) len_str) (lt_true (Int.ofNat_lt.mpr (drop_lt hd)))) rfl (e_cmp (e_slc (e_loc rfl) (e_at rfl hc) (e_addn 2 rfl (e_at rfl hc))) e_cst (ne_str' ?_))
    rw [hd, Nat.add_sub_cancel_left]; rfl

theorem txt_read {d : Nat} (O : XOk X xs) {T l rest : List Nat} {i ka kl : Nat} {vs0 : List V} {h : Hp} {x3 x4 x5 x6 x7 x8 : Option V} (hd : T.drop i = E3 l ++ rest) (hr : rest = [] ∨ ∃ r, rest = 60 :: r) (hi : i ≤ T.length) (hT : T.length ≤ 2000000) (hv : vs0.length < LIM) (hk : ka < kl) (hc : h[ka]? = some (.list [.int (i : Int)])) (hl : h[kl]? = some (.list vs0)) :
    Ex X (d + 2) rTxt [some (.str T), some (.ref ka), some (.ref kl), x3, x4, x5, x6, x7, x8] h .next [some (.str T), some (.ref ka), some (.ref kl), some (.int ((i + (E3 l).length : Nat) : Int)), x4, x5, x6, x7, x8] ((h.set kl (.list (vs0 ++ [.str l]))).set ka (.list [.int ((i + (E3 l).length : Nat) : Int)])) := by
  have hE : 60 ∉ E3 l := E3_free (.inl rfl) l
  have hlen := drop_le hi hd
  have hsl : (T.drop i).take (i + (E3 l).length - i) = E3 l := by rw [hd, Nat.add_sub_cancel_left, List.take_left]
  have cu := c_unescape (X := X) (d := d) (h := h) (l := (T.drop i).take (i + (E3 l).length - i)) O (by rw [hsl]; exact Nat.le_trans (Nat.le_trans (Nat.le_add_left _ _) (Nat.le_trans hlen hT)) (by decide))
  rw [hsl, U3E] at cu
  have hm := find_of (X := X) (h := h) (c := 60) hi
  have tail : ∀ z, Ex X (d + 2) (match rTxt with | .cons _ (.cons _ b) => b | _ => .nil) [some (.str T), some (.ref ka), some (.ref kl), some (.int ((i + (E3 l).length : Nat) : Int)), x4, x5, x6, x7, x8] h .next [some (.str T), some (.ref ka), some (.ref kl), some (.int ((i + (E3 l).length : Nat) : Int)), x4, x5, x6, x7, x8] z → Ex X (d + 2) rTxt [some (.str T), some (.ref ka), some (.ref kl), x3, x4, x5, x6, x7, x8] h .next [some (.str T), some (.ref ka), some (.ref kl), some (.int ((i + (E3 l).length : Nat) : Int)), x4, x5, x6, x7, x8] z := by
    intro z q
    rcases hr with rfl | ⟨r, rfl⟩
    · rw [hd, List.append_nil, fst1_no hE] at hm
      refine x_cons (s_asg (e_meth (e_loc rfl) (a_cons e_cst (a_cons (e_at rfl hc) a_nil)) hm)) (x_cons (m1 := [some (.str T), some (.ref ka), some (.ref kl), some (.int ((i + (E3 l).length : Nat) : Int)), x4, x5, x6, x7, x8]) (h1 := h) ?_ q)
      have hz : T.length = i + (E3 l).length := Nat.le_antisymm (List.drop_eq_nil_iff.mp (drop_more hd)) hlen
      rw [← hz]
      exact s_asg (e_ite_t (e_cmp (e_loc rfl) e_cst (lt_true (by show (-1 : Int) < 0; decide))) rfl (e_bcall (a_cons (e_loc rfl) a_nil) len_str))
    · rw [hd, fst1_at hE] at hm
      exact x_cons (s_asg (e_meth (e_loc rfl) (a_cons e_cst (a_cons (e_at rfl hc) a_nil)) hm)) (x_cons (s_asg (e_ite_f (e_cmp (e_loc rfl) e_cst (lt_false (Int.not_lt.mpr (Int.natCast_nonneg (i + (E3 l).length))))) rfl (e_loc rfl))) q)
  refine tail _ (x_cons (s_app (e_loc rfl) (isL_of hl) (e_call (a_cons (e_slc (e_loc rfl) (e_at rfl hc) (e_loc rfl)) a_nil) ?_) (appL_of hl hv)) (x_cons (s_at (i := i) rfl (e_loc rfl) ((set_ne (Nat.ne_of_lt hk)).trans hc)) x_nil))
  rw [hsl]
  exact cu
end
end Mine

end

section
open PySem
namespace Mine
section
variable {X : Hp} {xs : List Int}
theorem take1 {c : Nat} {r : List Nat} : (c :: r).take 1 = [c] := rfl
theorem more {vs0 : List V} {v : V} {i j : Nat} (hv : vs0.length ≤ i) (hj : i < j) : (vs0 ++ [v]).length ≤ j := by rw [List.length_append]; exact Nat.le_trans (Nat.succ_le_succ hv) hj
theorem lim_of {vs0 : List V} {T : List Nat} {i : Nat} (hv : vs0.length ≤ i) (hi : i ≤ T.length) (hT : T.length ≤ 2000000) : vs0.length < LIM := Nat.lt_of_le_of_lt (Nat.le_trans hv (Nat.le_trans hi hT)) (by decide)
theorem ne_head {a b : Nat} {r s : List Nat} (h : a ≠ b) : a :: r ≠ b :: s := fun e => h (List.cons.inj e).1

theorem read_txt {d : Nat} (O : XOk X xs) {l : List Nat} {R : D} (hR : D.Ok 1 R) (hl : l ≠ []) (ih : RA X (d + 2) R) : RA X (d + 2) (.txt l R) := by
  intro T post i ka kl vs0 D0 h x3 x4 x5 x6 x7 x8 hd hi hp hT hv hk hc hls hr0
  have hd' : T.drop i = E3 l ++ (R.wr ++ post) := hd.trans (List.append_assoc _ _ _)
  have hrest : (R.wr ++ post) = [] ∨ ∃ r, (R.wr ++ post) = 60 :: r := by
    rcases D.wr_head hR with e | ⟨r, e⟩
    · rw [e, List.nil_append]
      rcases hp with rfl | ⟨r, rfl⟩
      · exact .inl rfl
      · exact .inr ⟨_, rfl⟩
    · exact .inr ⟨r ++ post, by rw [e]; rfl⟩
  have hE : 60 ∉ E3 l := E3_free (.inl rfl) l
  obtain ⟨c, r, hcr⟩ : ∃ c r, E3 l = c :: r := by
    have hge := E3_ge l
    cases hh : E3 l with
    | nil => exact absurd (List.length_eq_zero_iff.mp (Nat.le_zero.mp (by rw [hh] at hge; exact hge))) hl
    | cons c r => exact ⟨c, r, rfl⟩
  have hc60 : c ≠ 60 := fun e => hE (by rw [hcr, e]; exact .head _)
  have hd2 : T.drop i = c :: (r ++ (R.wr ++ post)) := by rw [hd', hcr]; rfl
  have hij : i < i + (E3 l).length := by rw [hcr]; exact Nat.lt_add_of_pos_right (Nat.succ_pos _)
  have ht := test_on (X := X) (d := d + 2) (x2 := some (.ref kl)) (x3 := x3) (x4 := x4) (x5 := x5) (x6 := x6) (x7 := x7) (x8 := x8) hd2 (ne_head hc60) hc
  have tr := txt_read (d := d) (x3 := x3) (x4 := x4) (x5 := x5) (x6 := x6) (x7 := x7) (x8 := x8) O hd' hrest hi hT (lim_of hv hi hT) hk hc hls
  have cond : Ev X (d + 2) (.cmp .NotEq (.idx (.loc 0 ⟨73, 11, 73, 15⟩) (.idx (.loc 1 ⟨73, 16, 73, 18⟩) (.cst (.int 0) ⟨73, 19, 73, 20⟩) ⟨73, 16, 73, 21⟩) ⟨73, 11, 73, 22⟩) (.cst (.str "<") ⟨73, 26, 73, 29⟩) ⟨73, 11, 73, 29⟩) [some (.str T), some (.ref ka), some (.ref kl), x3, x4, x5, x6, x7, x8] h (.bool true) h :=
    e_cmp (e_idx (e_loc rfl) (e_at rfl hc) (idx_strc (Int.natCast_nonneg i) (by rw [Int.toNat_natCast]; exact drop_at hd2))) e_cst (ne_str (b := [60]) (ne_head hc60))
  have hi2 := drop_le hi hd'
  have hd3 := drop_more hd'
  have hkl := at_lt hls
  clear hd hd2 hcr hrest hE
  revert tr hij hi2 hd3
  generalize i + (E3 l).length = j
  intro hij tr hi2 hd3
  have K1 : Keep (two ka kl) h (h.set kl (.list (vs0 ++ [.str l]))) := Keep.set (.inr rfl)
  have K2 : Keep (two ka kl) h ((h.set kl (.list (vs0 ++ [.str l]))).set ka (.list [.int (j : Int)])) := K1.trans (Keep.set (.inl rfl))
  have a2 : ((h.set kl (.list (vs0 ++ [.str l]))).set ka (.list [.int (j : Int)]))[kl]? = some (.list (vs0 ++ [.str l])) := (set_ne (Nat.ne_of_gt hk)).trans (set_self hkl)
  have c2 : ((h.set kl (.list (vs0 ++ [.str l]))).set ka (.list [.int (j : Int)]))[ka]? = some (.list [.int (j : Int)]) := set_self (K1.lt (at_lt hc))
  revert tr K2 a2 c2
  clear K1
  generalize (h.set kl (.list (vs0 ++ [.str l]))).set ka (.list [.int (j : Int)]) = h2
  intro tr K2 a2 c2
  have rt : (Mine.D.txt l .nil).Rp h2 (kl + 1) h2.length [.str l] := ⟨[], rfl, rfl⟩
  obtain ⟨vs', h', j', y3, y4, y5, y6, y7, y8, q1, q2, q3, q4, q5, q6, q7, q8⟩ := ih T post j ka kl (vs0 ++ [.str l]) (D0.app (.txt l .nil)) h2 (some (.int (j : Int))) x4 x5 x6 x7 x8 hd3 hi2 hp hT (more hv hij) hk c2 a2 (D.Rp.app rt (K2.rp (Nat.le_refl _) (Nat.le_refl _) (fun j a => two_out hk a) hr0))
  rw [D.app_assoc] at q8
  exact ⟨vs', h', j', y3, y4, y5, y6, y7, y8, w_next ht rfl (x_cons (s_ite_t cond rfl tr) x_nil) q1, K2.trans q2, q3, q4, Nat.le_trans (Nat.le_of_lt hij) q5, q6, q7, q8⟩

theorem read_val {d : Nat} {c : Nat} {e R : D} (hl : e.wr.length ≤ 2000000) (ie : RA X (d + 2) e) (ih : RB X (d + 3) R) : RB X (d + 3) (.val c e R) := by
  intro T post i ka kv vs0 D0 h x2 x3 x4 x6 x7 x8 hd hi hp hT hv hk hc hls hr0
  obtain ⟨q, body, hq, hW, hqb, _, _, hU, _⟩ := W3_form e.wr
  have hd' : T.drop i = 32 :: c :: 61 :: q :: (body ++ q :: (R.wr ++ post)) := by rw [hd, D.wr, hW]; simp
  have d1 := drop_cons hd'
  have d3 := drop_cons (drop_cons d1)
  have d4 := drop_cons d3
  have d5 := drop_more d4
  have d6 := drop_cons d5
  have i4 : i + 4 ≤ T.length := drop_lt d3
  have i5 : i + 4 + body.length < T.length := drop_lt d5
  have hij : i < i + 4 + body.length + 1 := Nat.lt_succ_of_le (Nat.le_trans (Nat.le_add_right i 4) (Nat.le_add_right _ _))
  have hkv := at_lt hls
  -- the value's reading
  have cv := c_value (X := X) (d := d) (h := h) (l := body) (Nat.le_trans (Nat.le_trans (Nat.le_add_left _ _) (Nat.le_of_lt i5)) (Nat.le_trans hT (by decide)))
  rw [hU] at cv
  obtain ⟨k1, vs1, hC, j1, c1, c2, c3, c4, c5, _⟩ := c_read_of (d := d + 2) (D := e) ie (T := e.wr) (post := []) (i := 0) (ka := (h ++ [O.dict true 4 (encd tab4)]).length) (h := h ++ [O.dict true 4 (encd tab4)] ++ [O.list [.int 0]]) (List.append_nil _).symm (Nat.zero_le _) (.inl rfl) hl append_at
  have KA : Keep (two ka kv) h (h ++ [O.dict true 4 (encd tab4)]) := Keep.app
  have KB : Keep (two ka kv) h (h ++ [O.dict true 4 (encd tab4)] ++ [O.list [.int 0]]) := KA.trans Keep.app
  have KC : Keep (fun _ => False) h hC := (Keep.app.trans Keep.app).via (fun j l e => absurd (Nat.lt_of_lt_of_le l KA.len) (by rw [show j = _ from e]; exact Nat.lt_irrefl _)) c2
  have kk1 : kv < k1 := Nat.lt_of_lt_of_le (KB.lt hkv) c3
  have hvC : (hC ++ [O.tup [.str [c], .ref k1]])[kv]? = some (.list vs0) := (KC.trans Keep.app).at_ hls id
  have hcC : (hC ++ [O.tup [.str [c], .ref k1]])[ka]? = some (.list [.int (i : Int)]) := (KC.trans Keep.app).at_ hc id
  have e1 : ((hC ++ [O.tup [.str [c], .ref k1]]).set kv (.list (vs0 ++ [.ref hC.length])))[ka]? = some (.list [.int (i : Int)]) := (set_ne (Nat.ne_of_lt hk)).trans hcC
  obtain ⟨hF, eF⟩ : ∃ hF, hF = ((hC ++ [O.tup [.str [c], .ref k1]]).set kv (.list (vs0 ++ [.ref hC.length]))).set ka (.list [.int ((i + 4 + body.length + 1 : Nat) : Int)]) := ⟨_, rfl⟩
  have K6 : Keep (two ka kv) (hC ++ [O.tup [.str [c], .ref k1]]) hF := by
    have x1 : Keep (two ka kv) (hC ++ [O.tup [.str [c], .ref k1]]) ((hC ++ [O.tup [.str [c], .ref k1]]).set kv (.list (vs0 ++ [.ref hC.length]))) := Keep.set (.inr rfl)
    exact eF ▸ x1.trans (Keep.set (.inl rfl))
  have K5 : Keep (two ka kv) hC hF := Keep.app.trans K6
  have K0 : Keep (two ka kv) h hF := (KC.weak fun _ _ f => f.elim).trans K5
  have hCl : kv < hC.length := KC.lt hkv
  have tF : hF[hC.length]? = some (O.tup [.str [c], .ref k1]) := K6.at_ append_at (two_out hk hCl)
  have cF : hF[ka]? = some (.list [.int ((i + 4 + body.length + 1 : Nat) : Int)]) := eF ▸ set_self (at_lt e1)
  have aF : hF[kv]? = some (.list (vs0 ++ [.ref hC.length])) := eF ▸ (set_ne (Nat.ne_of_gt hk)).trans (set_self (at_lt hvC))
  have rnew : (Mine.D.val c e .nil).Rp hF (kv + 1) hF.length [.ref hC.length] :=
    ⟨hC.length, k1, vs1, [], rfl, ⟨hCl, at_lt tF⟩, ⟨kk1, K5.lt (at_lt c4)⟩, tF, K5.at_ c4 (two_out hk kk1), K5.rp (KB.lt hkv) (Nat.le_refl _) (fun j a => two_out hk (Nat.lt_of_lt_of_le (KB.lt hkv) a)) c5, rfl⟩
  obtain ⟨vs', h', j, y3, y6, y7, q1, q2, q3, q4, q5, q6, q7, q8⟩ := ih T post (i + 4 + body.length + 1) ka kv (vs0 ++ [.ref hC.length]) (D0.app (.val c e .nil)) hF x2 (some (.int ((i + 4 + body.length : Nat) : Int))) x4 (some (.str [c])) (some (.str [q])) x8 d6 i5 hp hT (more hv hij) hk cF aF (D.Rp.app rnew (K0.rp (Nat.le_refl _) (Nat.le_refl _) (fun j a => two_out hk a) hr0))
  rw [D.app_assoc] at q8
  refine ⟨vs', h', j, y3, y6, y7, w_next (e_cmp (e_slc (e_loc rfl) (e_at rfl hc) (e_addn 1 rfl (e_at rfl hc))) e_cst (eq_str ?_)) rfl ?_ q1, K0.trans q2, q3, q4, Nat.le_trans (Nat.le_of_lt hij) q5, q6, q7, q8⟩
  · rw [hd', Nat.add_sub_cancel_left]; rfl
  · have hf := find_of (X := X) (h := h) (T := T) (i := i + 4) (c := q) i4
    rw [d4, fst1_at hqb] at hf
    have k1' : (T.drop (i + 1)).take (i + 2 - (i + 1)) = [c] := by rw [d1, show i + 2 - (i + 1) = 1 from Nat.add_sub_cancel_left (n := i + 1) (m := 1)]; rfl
    have k3' : (T.drop (i + 3)).take (i + 4 - (i + 3)) = [q] := by rw [show T.drop (i + 3) = _ from d3, show i + 4 - (i + 3) = 1 from Nat.add_sub_cancel_left (n := i + 3) (m := 1)]; rfl
    have k4' : (T.drop (i + 4)).take (i + 4 + body.length - (i + 4)) = body := by rw [show T.drop (i + 4) = _ from d4, Nat.add_sub_cancel_left, List.take_left]
    have a1 := s_asg2 (X := X) (d := d + 3) (m := [some (.str T), some (.ref ka), x2, x3, x4, some (.ref kv), x6, x7, x8]) (i := 6) (j := 7) (p1 := ⟨83, 16, 83, 19⟩) (p2 := ⟨83, 21, 83, 26⟩) (p3 := ⟨83, 16, 83, 26⟩) (p4 := ⟨83, 29, 83, 83⟩) (p := ⟨83, 16, 83, 83⟩)
      (e_slc (p := ⟨83, 30, 83, 55⟩) (p1 := ⟨83, 35, 83, 54⟩) (e_loc (p := ⟨83, 30, 83, 34⟩) (i := 0) rfl) (e_addn (p := ⟨83, 35, 83, 44⟩) (p1 := ⟨83, 43, 83, 44⟩) (ci := 1) 1 rfl (e_at (p := ⟨83, 35, 83, 40⟩) (p1 := ⟨83, 35, 83, 37⟩) (p2 := ⟨83, 38, 83, 39⟩) rfl hc)) (e_addn (p := ⟨83, 45, 83, 54⟩) (p1 := ⟨83, 53, 83, 54⟩) (ci := 2) 2 rfl (e_at (p := ⟨83, 45, 83, 50⟩) (p1 := ⟨83, 45, 83, 47⟩) (p2 := ⟨83, 48, 83, 49⟩) rfl hc)))
      (e_slc (p := ⟨83, 57, 83, 82⟩) (p1 := ⟨83, 62, 83, 81⟩) (e_loc (p := ⟨83, 57, 83, 61⟩) (i := 0) rfl) (e_addn (p := ⟨83, 62, 83, 71⟩) (p1 := ⟨83, 70, 83, 71⟩) (ci := 3) 3 rfl (e_at (p := ⟨83, 62, 83, 67⟩) (p1 := ⟨83, 62, 83, 64⟩) (p2 := ⟨83, 65, 83, 66⟩) rfl hc)) (e_addn (p := ⟨83, 72, 83, 81⟩) (p1 := ⟨83, 80, 83, 81⟩) (ci := 4) 4 rfl (e_at (p := ⟨83, 72, 83, 77⟩) (p1 := ⟨83, 72, 83, 74⟩) (p2 := ⟨83, 75, 83, 76⟩) rfl hc)))
    rw [k1', k3'] at a1
    have a4 : Ev X (d + 3) (.slice (.loc 0 ⟨85, 57, 85, 61⟩) (.yes (.bin .Add (.idx (.loc 1 ⟨85, 62, 85, 64⟩) (.cst (.int 0) ⟨85, 65, 85, 66⟩) ⟨85, 62, 85, 67⟩) (.cst (.int 4) ⟨85, 70, 85, 71⟩) ⟨85, 62, 85, 71⟩)) (.yes (.loc 3 ⟨85, 72, 85, 75⟩)) ⟨85, 62, 85, 75⟩ ⟨85, 57, 85, 76⟩) [some (.str T), some (.ref ka), x2, some (.int ((i + 4 + body.length : Nat) : Int)), x4, some (.ref kv), some (.str [c]), some (.str [q]), x8] h (.str body) h := by
      have := e_slc (X := X) (d := d + 3) (m := [some (.str T), some (.ref ka), x2, some (.int ((i + 4 + body.length : Nat) : Int)), x4, some (.ref kv), some (.str [c]), some (.str [q]), x8]) (h := h) (p := ⟨85, 57, 85, 76⟩) (p1 := ⟨85, 62, 85, 75⟩) (e_loc (p := ⟨85, 57, 85, 61⟩) (i := 0) rfl) (e_addn (p := ⟨85, 62, 85, 71⟩) (p1 := ⟨85, 70, 85, 71⟩) (ci := 4) 4 rfl (e_at (p := ⟨85, 62, 85, 67⟩) (p1 := ⟨85, 62, 85, 64⟩) (p2 := ⟨85, 65, 85, 66⟩) rfl hc)) (e_loc (p := ⟨85, 72, 85, 75⟩) (i := 3) (v := .int ((i + 4 + body.length : Nat) : Int)) rfl)
      rw [k4'] at this
      exact this
    rw [eF]
    exact x_cons a1 (x_cons (s_asg (v := .int ((i + 4 + body.length : Nat) : Int)) (h1 := h) (e_meth (e_loc rfl) (a_cons (e_loc rfl) (a_cons (e_addn 4 rfl (e_at rfl hc)) a_nil)) hf)) (x_cons (s_app (e_loc rfl) (isL_of hls) (e_tup (a_cons (e_loc rfl) (a_cons (e_call (a_cons (e_call (a_cons a4 a_nil) cv) (a_cons (e_list (a_cons e_cst a_nil)) a_nil)) c1) a_nil))) (appL_of hvC (lim_of hv hi hT))) (x_cons (s_at rfl (e_addn 1 rfl (e_loc rfl)) e1) x_nil)))
end
end Mine

end

section
open PySem
namespace Mine
section
variable {X : Hp} {xs : List Int}
theorem read_el {d : Nat} {n : Nat} {a b R : D} (hn : n = 97 ∨ n = 98 ∨ n = 99) (ia : RB X (d + 1) a) (ib : RA X d b) (ih : RA X (d + 1) R) : RA X (d + 1) (.el n a b R) := by
  intro T post i ka kl vs0 D0 h x3 x4 x5 x6 x7 x8 hd hi hp hT hv hk hc hls hr0
  have hd' : T.drop i = 60 :: n :: (a.wr ++ 62 :: (b.wr ++ 60 :: 47 :: n :: 62 :: (R.wr ++ post))) := by rw [hd, D.wr]; simp
  have d1 := drop_cons hd'
  have d2 := drop_cons d1
  have hka := at_lt hc
  have hkl := at_lt hls
  have hk1 : (T.drop (i + 1)).take (i + 2 - (i + 1)) = [n] := by rw [d1, show i + 2 - (i + 1) = 1 from Nat.add_sub_cancel_left (n := i + 1) (m := 1)]; rfl
  -- behind the name
  obtain ⟨h1, e1⟩ : ∃ h1, h1 = h.set ka (.list [.int ((i + 2 : Nat) : Int)]) := ⟨_, rfl⟩
  have K1 : Keep (two ka kl) h h1 := e1 ▸ Keep.set (.inl rfl)
  have K1' : Keep (one ka) h h1 := e1 ▸ Keep.set rfl
  have c1 : h1[ka]? = some (.list [.int ((i + 2 : Nat) : Int)]) := e1 ▸ set_self hka
  have s1 : h1[kl]? = some (.list vs0) := K1'.at_ hls (one_out hk)
  -- the values
  obtain ⟨va, h3, j3, y3, y6, y7, w1, w2, w3, w4, w5, w6, w7, w8⟩ := ia T (62 :: (b.wr ++ 60 :: 47 :: n :: 62 :: (R.wr ++ post))) (i + 2) ka h1.length [] .nil (h1 ++ [.list []]) (some (.ref kl)) x3 (some (.str [n])) x6 x7 x8 d2 (drop_lt d1) ⟨_, _, rfl, by decide⟩ hT (Nat.zero_le _) (at_lt c1) ((append_below (at_lt c1)).trans c1) append_at rfl
  have K3 : Keep (one ka) h1 h3 := (Keep.app (g := [.list []])).via two_new w2
  obtain ⟨h4, e4⟩ : ∃ h4, h4 = h3.set ka (.list [.int ((j3 + 1 : Nat) : Int)]) := ⟨_, rfl⟩
  have K4 : Keep (one ka) h3 h4 := e4 ▸ Keep.set rfl
  have c4 : h4[ka]? = some (.list [.int ((j3 + 1 : Nat) : Int)]) := e4 ▸ set_self (at_lt w6)
  -- what is inside
  obtain ⟨k5, vs5, h5, j5, r1, r2, r3, r4, r5, r6, r7, r8, r9⟩ := c_read_of ib (T := T) (post := 60 :: 47 :: n :: 62 :: (R.wr ++ post)) (i := j3 + 1) (ka := ka) (h := h4) (drop_cons w3) (drop_lt w3) (.inr ⟨_, rfl⟩) hT c4
  have d4 := drop_cons (drop_cons (drop_cons r6))
  have d5 := drop_cons d4
  obtain ⟨h6, e6⟩ : ∃ h6, h6 = h5.set ka (.list [.int ((j5 + 4 : Nat) : Int)]) := ⟨_, rfl⟩
  have K6 : Keep (one ka) h5 h6 := e6 ▸ Keep.set rfl
  have c6 : h6[ka]? = some (.list [.int ((j5 + 4 : Nat) : Int)]) := e6 ▸ set_self (at_lt r9)
  have K36 : Keep (one ka) h3 h6 := K4.trans (r2.trans K6)
  have K16 : Keep (one ka) h1 h6 := K3.trans K36
  have a6 : h6[kl]? = some (.list vs0) := K16.at_ s1 (one_out hk)
  obtain ⟨h8, e8⟩ : ∃ h8, h8 = (h6 ++ [O.tup [.str [n], .ref h1.length, .ref k5]]).set kl (.list (vs0 ++ [.ref h6.length])) := ⟨_, rfl⟩
  have K7 : Keep (one kl) (h6 ++ [O.tup [.str [n], .ref h1.length, .ref k5]]) h8 := e8 ▸ Keep.set rfl
  have K8 : Keep (one kl) h6 h8 := Keep.app.trans K7
  have K38 : Keep (two ka kl) h3 h8 := (K36.weak fun j _ e => .inl e).trans (K8.weak fun j _ e => .inr e)
  have K58 : Keep (two ka kl) h5 h8 := (K6.weak fun j _ e => .inl e).trans (K8.weak fun j _ e => .inr e)
  have K08 : Keep (two ka kl) h h8 := K1.trans ((K3.weak fun j _ e => .inl e).trans K38)
  have s8 : h8[kl]? = some (.list (vs0 ++ [.ref h6.length])) := e8 ▸ set_self (Keep.app.lt (S := one kl) (at_lt a6))
  have t8 : h8[h6.length]? = some (O.tup [.str [n], .ref h1.length, .ref k5]) := K7.at_ append_at (one_out (at_lt a6))
  have l1 : kl < h1.length := at_lt s1
  have l5 : kl < k5 := Nat.lt_of_lt_of_le (K4.lt (K3.lt l1)) r3
  have rnew : (Mine.D.el n a b .nil).Rp h8 (kl + 1) h8.length [.ref h6.length] :=
    ⟨h6.length, h1.length, k5, va, vs5, [], rfl, ⟨at_lt a6, at_lt t8⟩, ⟨l1, K38.lt (at_lt w7)⟩, ⟨l5, K58.lt (at_lt r4)⟩, t8, K38.at_ w7 (two_out hk l1), K58.at_ r4 (two_out hk l5),
      K38.rp (Nat.succ_le_succ (Nat.le_of_lt l1)) (Nat.le_refl _) (fun j a => two_out hk (Nat.lt_trans l1 a)) w8, K58.rp (K4.lt (K3.lt l1)) (Nat.le_refl _) (fun j a => two_out hk (Nat.lt_of_lt_of_le (K4.lt (K3.lt l1)) a)) r5, rfl⟩
  have hij : i < j5 + 4 := Nat.lt_of_lt_of_le (Nat.lt_of_lt_of_le (Nat.lt_add_of_pos_right (by decide)) w5) (Nat.le_trans (Nat.le_of_succ_le r8) (Nat.le_add_right _ _))
  obtain ⟨vs', h', j', z3, z4, z5, z6, z7, z8, q1, q2, q3, q4, q5, q6, q7, q8⟩ := ih T post (j5 + 4) ka kl (vs0 ++ [.ref h6.length]) (D0.app (.el n a b .nil)) h8 y3 (some (.str [n])) (some (.ref h1.length)) y6 y7 (some (.ref k5)) d5 (drop_lt d4) hp hT (more hv hij) hk (K8.at_ c6 (one_below hk)) s8 (D.Rp.app rnew (K08.rp (Nat.le_refl _) (Nat.le_refl _) (fun j a => two_out hk a) hr0))
  rw [D.app_assoc] at q8
  have ht := test_on (X := X) (d := d + 1) (x2 := some (.ref kl)) (x3 := x3) (x4 := x4) (x5 := x5) (x6 := x6) (x7 := x7) (x8 := x8) hd' (fun e => by
    have e := (List.cons.inj (List.cons.inj e).2).1
    rcases hn with rfl | rfl | rfl <;> exact absurd e (by decide)) hc
  have a4 : Sx X (d + 1) (.asg 4 ⟨79, 12, 79, 16⟩ (.slice (.loc 0 ⟨79, 19, 79, 23⟩) (.yes (.bin .Add (.idx (.loc 1 ⟨79, 24, 79, 26⟩) (.cst (.int 0) ⟨79, 27, 79, 28⟩) ⟨79, 24, 79, 29⟩) (.cst (.int 1) ⟨79, 32, 79, 33⟩) ⟨79, 24, 79, 33⟩)) (.yes (.bin .Add (.idx (.loc 1 ⟨79, 34, 79, 36⟩) (.cst (.int 0) ⟨79, 37, 79, 38⟩) ⟨79, 34, 79, 39⟩) (.cst (.int 2) ⟨79, 42, 79, 43⟩) ⟨79, 34, 79, 43⟩)) ⟨79, 24, 79, 43⟩ ⟨79, 19, 79, 44⟩) ⟨79, 12, 79, 44⟩) [some (.str T), some (.ref ka), some (.ref kl), x3, x4, x5, x6, x7, x8] h .next [some (.str T), some (.ref ka), some (.ref kl), x3, some (.str [n]), x5, x6, x7, x8] h := by
    rw [← hk1]
    exact s_asg (e_slc (e_loc rfl) (e_addn 1 rfl (e_at rfl hc)) (e_addn 2 rfl (e_at rfl hc)))
  refine ⟨vs', h', j', z3, z4, z5, z6, z7, z8, w_next ht rfl (x_cons (s_ite_f (e_cmp (e_idx (e_loc rfl) (e_at rfl hc) (idx_strc (Int.natCast_nonneg i) (by rw [Int.toNat_natCast]; exact drop_at hd'))) e_cst (ne_str' rfl)) rfl ?_) x_nil) q1, K08.trans q2, q3, q4, Nat.le_trans (Nat.le_of_lt hij) q5, q6, q7, q8⟩
  have b6 := isL_of a6
  have b7 := appL_of (v := .ref h6.length) ((append_below (g := [O.tup [.str [n], .ref h1.length, .ref k5]]) (at_lt a6)).trans a6) (lim_of hv hi hT)
  rw [← e8] at b7
  have p1 := s_at (X := X) (d := d + 1) (m := [some (.str T), some (.ref ka), some (.ref kl), x3, some (.str [n]), x5, x6, x7, x8]) (p1 := ⟨80, 12, 80, 14⟩) (p2 := ⟨80, 15, 80, 16⟩) (p3 := ⟨80, 12, 80, 17⟩) (p := ⟨80, 12, 80, 29⟩) (h := h) rfl (e_addn (p := ⟨80, 20, 80, 29⟩) (p1 := ⟨80, 28, 80, 29⟩) (ci := 2) 2 rfl (e_at (p := ⟨80, 20, 80, 25⟩) (p1 := ⟨80, 20, 80, 22⟩) (p2 := ⟨80, 23, 80, 24⟩) rfl hc)) hc
  rw [← e1] at p1
  have p4 := s_at (X := X) (d := d + 1) (m := [some (.str T), some (.ref ka), some (.ref kl), y3, some (.str [n]), some (.ref h1.length), y6, y7, x8]) (p1 := ⟨87, 12, 87, 14⟩) (p2 := ⟨87, 15, 87, 16⟩) (p3 := ⟨87, 12, 87, 17⟩) (p := ⟨87, 12, 87, 29⟩) (h := h3) rfl (e_addn (p := ⟨87, 20, 87, 29⟩) (p1 := ⟨87, 28, 87, 29⟩) (ci := 1) 1 rfl (e_at (p := ⟨87, 20, 87, 25⟩) (p1 := ⟨87, 20, 87, 22⟩) (p2 := ⟨87, 23, 87, 24⟩) rfl w6)) w6
  rw [← e4] at p4
  have p6 := s_at (X := X) (d := d + 1) (m := [some (.str T), some (.ref ka), some (.ref kl), y3, some (.str [n]), some (.ref h1.length), y6, y7, some (.ref k5)]) (p1 := ⟨89, 12, 89, 14⟩) (p2 := ⟨89, 15, 89, 16⟩) (p3 := ⟨89, 12, 89, 17⟩) (p := ⟨89, 12, 89, 29⟩) (h := h5) rfl (e_addn (p := ⟨89, 20, 89, 29⟩) (p1 := ⟨89, 28, 89, 29⟩) (ci := 4) 4 rfl (e_at (p := ⟨89, 20, 89, 25⟩) (p1 := ⟨89, 20, 89, 22⟩) (p2 := ⟨89, 23, 89, 24⟩) rfl r9)) r9
  rw [← e6] at p6
  exact x_cons a4 (x_cons p1 (x_cons (s_asg (e_list a_nil)) (x_cons (s_while w1) (x_cons p4 (x_cons (s_asg (e_call (a_cons (e_loc rfl) (a_cons (e_loc rfl) a_nil)) r1)) (x_cons p6 (x_cons (s_app (e_loc rfl) b6 (e_tup (a_cons (e_loc rfl) (a_cons (e_loc rfl) (a_cons (e_loc rfl) a_nil)))) b7) x_nil)))))))

theorem reads (O : XOk X xs) {D : D} : ∀ {d k q : Nat}, D.Dp k → k + 4 ≤ d → D.Dv q → q ≤ 3 → D.cost ≤ 5670 → (∀ {m : Nat}, m ≠ 2 → D.Ok m → RA X d D) ∧ (D.Ok 2 → RB X d D) := by
  induction D with
  | nil =>
    intro d k q _ _ _ _ _
    constructor
    · intro m _ _ T post i ka kl vs0 D0 h x3 x4 x5 x6 x7 x8 hd hi hp hT hv hk hc hls hr0
      exact ⟨vs0, h, i, x3, x4, x5, x6, x7, x8, w_stop (test_off hd hp hc) rfl, Keep.refl _, hd, hi, Nat.le_refl _, hc, hls, by rw [D.app_nil]; exact hr0⟩
    · intro _ T post i ka kv vs0 D0 h x2 x3 x4 x6 x7 x8 hd hi hp hT hv hk hc hls hr0
      obtain ⟨c, r, rfl, hne⟩ := hp
      refine ⟨vs0, h, i, x3, x6, x7, w_stop (e_cmp (e_slc (e_loc rfl) (e_at rfl hc) (e_addn 1 rfl (e_at rfl hc))) e_cst (eq_str' ?_)) rfl, Keep.refl _, hd, hi, Nat.le_refl _, hc, hls, by rw [D.app_nil]; exact hr0⟩
      rw [show T.drop i = c :: r from hd, Nat.add_sub_cancel_left]
      exact ne_head hne
  | txt l R ih =>
    intro d k q dp hd dv hq hc
    refine ⟨fun {m} hm ok => ?_, fun ok => absurd ok.1 (by decide)⟩
    obtain ⟨c1, c2⟩ := cost_txt hc
    have ht := (ih dp hd dv hq c2).1 (by decide) ok.2.2
    obtain ⟨d, rfl, hd1⟩ := pred_of hd
    obtain ⟨d, rfl, hd2⟩ := pred_of hd1
    exact read_txt O ok.2.2 ok.2.1 ht
  | el n a b R iha ihb ihr =>
    intro d k q dp hd dv hq hc
    refine ⟨fun {m} hm ok => ?_, fun ok => absurd rfl ok.1⟩
    obtain ⟨ca, cb, cr⟩ := cost_el hc
    have ht := (ihr dp.2 hd dv.2.2 hq cr).1 (by decide) ok.2.2.2.2
    obtain ⟨⟨k, rfl, da, db⟩, _⟩ := dp
    obtain ⟨d, rfl, hd1⟩ := pred_of hd
    obtain ⟨q', hb', hq'⟩ := (val_len dv.2.1 hq cb).2
    exact read_el ok.2.1 ((iha da (Nat.succ_le_succ (Nat.le_of_succ_le hd1)) dv.1 hq ca).2 ok.2.2.1) ((ihb db (Nat.le_of_succ_le hd1) hb' hq' cb).1 (by decide) ok.2.2.2.1) ht
  | val c e R ihe ihr =>
    intro d k q dp hd dv hq hc
    refine ⟨fun {m} hm ok => absurd ok.1 hm, fun ok => ?_⟩
    obtain ⟨ce, cr⟩ := cost_val hc
    have ht := (ihr dp.2 hd dv.2 hq cr).2 ok.2.2.2
    obtain ⟨⟨k, rfl, de⟩, _⟩ := dp
    obtain ⟨d, rfl, hd1⟩ := pred_of hd
    obtain ⟨l3, q', hb', hq'⟩ := val_len dv.1 hq ce
    have he := (ihe de hd1 hb' hq' ce).1 (by decide) ok.2.2.1
    obtain ⟨d, rfl, hd2⟩ := pred_of hd1
    obtain ⟨d, rfl, hd3⟩ := pred_of hd2
    exact read_val (Nat.le_trans l3 (by decide)) he ht
end
end Mine

end

section
open PySem
namespace Mine
section
variable {X : Hp} {xs : List Int}
theorem ne_int {h : Hp} {a b : Int} (hab : a = b) : cmpop X h .NotEq (.int a) (.int b) = some false := by
  show some (!decide (a = b)) = _
  rw [decide_eq_true hab]; rfl
theorem count_of {h : Hp} {T : List Nat} {c : Nat} : meth X .count (.str T) [.str [c]] h = some (.int ((D.nof c T : Nat) : Int), h) := rfl
theorem twice {a : Nat} : binop .Mult (.int 2) (.int (a : Int)) = some (.int ((2 * a : Nat) : Int)) := rfl

theorem law_runs (O : XOk X xs) (hx : xs.length ≤ 63) : ∃ m' h', Ex X 20 b_law [some (.ext 0), none, none] [] (.ret (.bool true)) m' h' := by
  obtain ⟨B, k, vs, i', h1, cd, M⟩ := c_document (d := 15) (ka := 0) O hx 3 rfl [.list [.int 0]] 0 (by decide) rfl (Nat.zero_le _)
  have hcost : B.cost ≤ 5670 := Nat.le_trans M.cost (Nat.mul_le_mul_left 90 (Nat.le_trans M.le2 hx))
  have hwr : B.wr.length ≤ 2000000 := Nat.le_trans (D.wr_len M.num.2) (Nat.le_trans (Nat.mul_le_mul_left _ hcost) (by decide))
  have hdp : D.Dp 8 B := M.num.1
  have hdv : D.Dv 3 B := M.num.2
  obtain ⟨g, cw⟩ := c_written_of (d := 19) ((written O hdp (by decide) hdv (by decide) hcost).1 (m := 0) (by decide) M.ok) M.rp (Nat.le_refl _) M.at_ hwr
  have r2 := Rp_app (g := g) (Nat.le_refl _) M.rp
  have k2 := at_app (g := g) M.at_
  have co := c_outer_of (X := X) (d := 19) (counted hdp (by decide) (m := 0) (by decide) M.ok) r2 k2
  obtain ⟨q, ws, h3, j, cr, K3, a1, a3, a4, _⟩ := c_read_of (d := 19) ((reads O hdp (by decide) hdv (by decide) hcost).1 (m := 0) (by decide) M.ok) (T := B.wr) (post := []) (i := 0) (ka := (h1 ++ g).length) (h := h1 ++ g ++ [.list [.int 0]]) (List.append_nil _).symm (Nat.zero_le _) (.inl rfl) hwr append_at
  have K1 : Keep (fun _ => False) h1 (h1 ++ g) := Keep.app
  have K : Keep (fun _ => False) h1 h3 := (K1.trans Keep.app).via (fun j l e => absurd (K1.lt l) (by rw [show j = _ from e]; exact Nat.lt_irrefl _)) K3
  have r3 := K.rp (lo' := 0) (Nat.zero_le _) (Nat.le_refl _) (fun _ _ => id) M.rp
  have k3 : h3[k]? = some (.list vs) := K.at_ M.at_ id
  have e59 : alike (deq X h3 59) ws vs = true := D.deq_at hdp (by decide) a4 r3
  have e60 : cmpop X h3 .Eq (.ref q) (.ref k) = some true := by
    show (if deq X h3 60 (.ref q) (.ref k) = true then _ else _) = _
    rw [if_pos (D.deq_list a3 k3 e59)]
  have n60 := D.nof_wr (c := 60) (.inl rfl) (d := B) (m := 0) (by decide) M.ok
  have n62 := D.nof_wr (c := 62) (.inr rfl) (d := B) (m := 0) (by decide) M.ok
  refine ⟨_, h3, x_cons (s_asg (e_call (a_cons (e_loc rfl) (a_cons (e_list (a_cons e_cst a_nil)) (a_cons e_cst a_nil))) cd)) (x_cons (s_asg (e_call (a_cons (e_loc rfl) a_nil) cw)) (x_cons (s_ite_f (e_or_f (e_cmp (e_meth (e_loc rfl) (a_cons e_cst a_nil) count_of) (e_bin e_cst (e_call (a_cons (e_loc rfl) a_nil) co) twice) (ne_int ?_)) rfl (e_cmp (e_meth (e_loc rfl) (a_cons e_cst a_nil) count_of) (e_bin e_cst (e_call (a_cons (e_loc rfl) a_nil) co) twice) (ne_int ?_))) rfl x_nil) (x_ret (s_ret (e_cmp (e_call (a_cons (e_loc rfl) (a_cons (e_list (a_cons e_cst a_nil)) a_nil)) cr) (e_loc rfl) e60)))))⟩
  · show ((D.nof 60 B.wr : Nat) : Int) = _
    rw [n60]
  · show ((D.nof 62 B.wr : Nat) : Int) = _
    rw [n62]
end
noncomputable def X0 (xs : List Int) : Hp := [.list (xs.map fun i => V.int i), .dict true 0 [], .dict true 0 [], .dict true 0 []]
theorem law_true (xs : List Int) (hx : xs.length ≤ 63) : ∃ n m' h', (Mi funs (X0 xs) n 20).ex b_law [some (.ext 0), none, none] [] = some (.ret (.bool true), m', h') := by
  obtain ⟨m', h', N, hN⟩ := law_runs (X := X0 xs) (xs := xs) ⟨rfl, rfl, rfl, rfl⟩ hx
  exact ⟨N, m', h', hN N (Nat.le_refl _)⟩
end Mine

end

section
open PySem PySem.Calls PyProof.Rows PySem.W
set_option maxRecDepth 100000
set_option maxHeartbeats 8000000
namespace Mine
open_top hd1 for PySem.Challenge.rw_at0008_02

/-- what the heap holds at the law's call -/
noncomputable def fr (P : Params) (a : Addr) : Obj := ((hd1.heap_39 P).lookup a).getD default
noncomputable def fdOf (P : Params) (a : Addr) : FuncData := match (fr P a).data with | .func fd => fd | _ => default

theorem fr_at {P : Params} {h : Heap} (K : (hd1.heap_39 P).In h) (a : Addr) (e : ((hd1.heap_39 P).lookup a).isSome = true) : h.get? a = some (fr P a) := by
  refine K a _ ?_
  unfold fr
  cases hh : (hd1.heap_39 P).lookup a with
  | none => rw [hh] at e; cases e
  | some o => rfl

noncomputable def cx (w : World) (G : Heap) (lst : Addr) (xs : List Int) (mg mb : Str → Option Value) (prog : Program) : Cx :=
  { prog := prog, w := w, L := ⟨[21, 30, 39, 48, 55, 62, 69, 76, 83, 90, 97], [lst, 22, 31, 40]⟩, F := funs, X := [.list (xs.map fun i => V.int i), .dict true 0 [], .dict true 0 [], .dict true 0 []], G := G, globs := fnames, mg := mg, mb := mb }

theorem code_rec {P : Params} {h : Heap} (K : (hd1.heap_39 P).In h) (a c : Addr) (q : Str) (e : ((hd1.heap_39 P).lookup c).isSome = true) (hc : (fdOf P a).code = .ref c) (hq : (match (fr P c).data with | .fields vs => (match vs[1]? with | some (Value.str q' t) => q' == q | _ => false) | _ => false) = true) : h.CodeRec (fdOf P a).code q := by
  have h1 := fr_at K c e
  revert hq h1
  generalize fr P c = o
  intro hq h1
  split at hq
  · rename_i vs hd
    split at hq
    · rename_i q' t hv
      rw [beq_iff_eq.mp hq] at hv
      exact ⟨c, o, vs, t, hc, h1, hd, hv⟩
    · cases hq
  · cases hq

theorem ln1 {α : Type} : ∀ {xs : List α}, xs.length = 1 → ∃ a, xs = [a]
  | [a], _ => ⟨a, rfl⟩
theorem ln2 {α : Type} : ∀ {xs : List α}, xs.length = 2 → ∃ a b, xs = [a, b]
  | [a, b], _ => ⟨a, b, rfl⟩
theorem ln3 {α : Type} : ∀ {xs : List α}, xs.length = 3 → ∃ a b c, xs = [a, b, c]
  | [a, b, c], _ => ⟨a, b, c, rfl⟩

section
variable {w : World} {G : Heap} {lst : Addr} {xs : List Int} {mg mb : Str → Option Value} {prog : Program}

/-- what can be looked at -/
noncomputable def looks (fn : Fn) (fd : FuncData) (N : Nm) : Bool :=
  fn.body.ok N fd.scope && (fd.scope.names.all fun x => decide (x.2 ≠ .cell)) && ((N.slots.take fn.np).all fun x => decide (fd.scope.names.lookup x = some .local)) && decide (fd.globals = mainGlobals) && decide (fd.builtins = builtinsNs) &&
  !fd.scope.isCoroutine && !fd.scope.isGenerator && decide (fd.scope.kind = .function) && decide (N.globs = fnames) && decide N.slots.Nodup && decide (N.slots.length = fn.nslots) && decide (fn.np ≤ fn.nslots)

theorem fnOk_of {a : Addr} {fn : Fn} {N : Nm} {c : Addr} (K : (hd1.heap_39 w.params).In G) (hl : looks fn (fdOf w.params a) N = true) (ha : ((hd1.heap_39 w.params).lookup a).isSome = true) (hd : (fr w.params a).data = .func (fdOf w.params a)) (hb : (fdOf w.params a).body = .stmts (fn.body.back N))
    (e : ((hd1.heap_39 w.params).lookup c).isSome = true) (hc : (fdOf w.params a).code = .ref c) (hq : (match (fr w.params c).data with | .fields vs => (match vs[1]? with | some (Value.str q' t) => q' == (fdOf w.params a).qualname | _ => false) | _ => false) = true)
    (bind : ∀ (s : Shared) (xs : List Value), (∀ b o, G.get? b = some o → s.heap.get? b = some o) → xs.length = fn.np → BindsTo s (fdOf w.params a) ⟨xs, []⟩ ((N.slots.take fn.np).zip xs))
    (bindD : ∀ j, fn.dflt = some j → ∃ x, VR (cx w G lst xs mg mb prog).L [] 0 (.ext j) x ∧ ∀ (s : Shared) (xs : List Value), (∀ b o, G.get? b = some o → s.heap.get? b = some o) → xs.length + 1 = fn.np → BindsTo s (fdOf w.params a) ⟨xs, []⟩ ((N.slots.take fn.np).zip (xs ++ [x]))) :
    FnOk (cx w G lst xs mg mb prog) fn a (fr w.params a) (fdOf w.params a) N := by
  unfold looks at hl
  simp only [Bool.and_eq_true, decide_eq_true_eq, List.all_eq_true, Bool.not_eq_true'] at hl
  obtain ⟨⟨⟨⟨⟨⟨⟨⟨⟨⟨⟨h1, h2⟩, h3⟩, h4⟩, h5⟩, h6⟩, h7⟩, h8⟩, h9⟩, h10⟩, h11⟩, h12⟩ := hl
  exact ⟨fr_at K a ha, hd, hb, h1, code_rec K a c _ e hc hq, h2, h3, h4, h5, h6, h7, h8, h9, h10, h11, h12, bind, bindD⟩

theorem fn_dict_replace_saxutils (K : (hd1.heap_39 w.params).In G) : FnOk (cx w G lst xs mg mb prog) ⟨2, 4, b_dict_replace_saxutils, .none⟩ 21 (fr w.params 21) (fdOf w.params 21) nm_dict_replace_saxutils :=
  fnOk_of (c := 20) K (by kernel_rfl) rfl rfl rfl rfl rfl rfl
    (fun s xs hk hl => by obtain ⟨a, b, rfl⟩ := ln2 hl; exact BindsTo.of_eq rfl) (fun j hj => by cases hj)
theorem fn_escape (K : (hd1.heap_39 w.params).In G) : FnOk (cx w G lst xs mg mb prog) ⟨2, 2, b_escape, some 1⟩ 30 (fr w.params 30) (fdOf w.params 30) nm_escape :=
  fnOk_of (c := 29) K (by kernel_rfl) rfl rfl rfl rfl rfl rfl
    (fun s xs hk hl => by obtain ⟨a, b, rfl⟩ := ln2 hl; exact BindsTo.of_defaults (T := 23) rfl (hk _ _ (fr_at K 23 rfl)) rfl rfl rfl)
    (fun j hj => by cases hj; exact ⟨.ref 22, ⟨22, rfl, rfl⟩, fun s xs hk hl => by obtain ⟨a, rfl⟩ := ln1 (Nat.succ.inj hl); exact BindsTo.of_defaults (T := 23) rfl (hk _ _ (fr_at K 23 rfl)) rfl rfl rfl⟩)
theorem fn_unescape (K : (hd1.heap_39 w.params).In G) : FnOk (cx w G lst xs mg mb prog) ⟨2, 2, b_unescape, some 2⟩ 39 (fr w.params 39) (fdOf w.params 39) nm_unescape :=
  fnOk_of (c := 38) K (by kernel_rfl) rfl rfl rfl rfl rfl rfl
    (fun s xs hk hl => by obtain ⟨a, b, rfl⟩ := ln2 hl; exact BindsTo.of_defaults (T := 32) rfl (hk _ _ (fr_at K 32 rfl)) rfl rfl rfl)
    (fun j hj => by cases hj; exact ⟨.ref 31, ⟨31, rfl, rfl⟩, fun s xs hk hl => by obtain ⟨a, rfl⟩ := ln1 (Nat.succ.inj hl); exact BindsTo.of_defaults (T := 32) rfl (hk _ _ (fr_at K 32 rfl)) rfl rfl rfl⟩)
theorem fn_quoteattr (K : (hd1.heap_39 w.params).In G) : FnOk (cx w G lst xs mg mb prog) ⟨2, 2, b_quoteattr, some 3⟩ 48 (fr w.params 48) (fdOf w.params 48) nm_quoteattr :=
  fnOk_of (c := 47) K (by kernel_rfl) rfl rfl rfl rfl rfl rfl
    (fun s xs hk hl => by obtain ⟨a, b, rfl⟩ := ln2 hl; exact BindsTo.of_defaults (T := 41) rfl (hk _ _ (fr_at K 41 rfl)) rfl rfl rfl)
    (fun j hj => by cases hj; exact ⟨.ref 40, ⟨40, rfl, rfl⟩, fun s xs hk hl => by obtain ⟨a, rfl⟩ := ln1 (Nat.succ.inj hl); exact BindsTo.of_defaults (T := 41) rfl (hk _ _ (fr_at K 41 rfl)) rfl rfl rfl⟩)
theorem fn_law_text (K : (hd1.heap_39 w.params).In G) : FnOk (cx w G lst xs mg mb prog) ⟨1, 4, b_law_text, .none⟩ 55 (fr w.params 55) (fdOf w.params 55) nm_law_text :=
  fnOk_of (c := 54) K (by kernel_rfl) rfl rfl rfl rfl rfl rfl
    (fun s xs hk hl => by obtain ⟨a, rfl⟩ := ln1 hl; exact BindsTo.of_eq rfl) (fun j hj => by cases hj)
theorem fn_law_document (K : (hd1.heap_39 w.params).In G) : FnOk (cx w G lst xs mg mb prog) ⟨3, 8, b_law_document, .none⟩ 62 (fr w.params 62) (fdOf w.params 62) nm_law_document :=
  fnOk_of (c := 61) K (by kernel_rfl) rfl rfl rfl rfl rfl rfl
    (fun s xs hk hl => by obtain ⟨a, b, c, rfl⟩ := ln3 hl; exact BindsTo.of_eq rfl) (fun j hj => by cases hj)
theorem fn_law_written (K : (hd1.heap_39 w.params).In G) : FnOk (cx w G lst xs mg mb prog) ⟨1, 8, b_law_written, .none⟩ 69 (fr w.params 69) (fdOf w.params 69) nm_law_written :=
  fnOk_of (c := 68) K (by kernel_rfl) rfl rfl rfl rfl rfl rfl
    (fun s xs hk hl => by obtain ⟨a, rfl⟩ := ln1 hl; exact BindsTo.of_eq rfl) (fun j hj => by cases hj)
theorem fn_law_value (K : (hd1.heap_39 w.params).In G) : FnOk (cx w G lst xs mg mb prog) ⟨1, 1, b_law_value, .none⟩ 76 (fr w.params 76) (fdOf w.params 76) nm_law_value :=
  fnOk_of (c := 75) K (by kernel_rfl) rfl rfl rfl rfl rfl rfl
    (fun s xs hk hl => by obtain ⟨a, rfl⟩ := ln1 hl; exact BindsTo.of_eq rfl) (fun j hj => by cases hj)
theorem fn_law_read (K : (hd1.heap_39 w.params).In G) : FnOk (cx w G lst xs mg mb prog) ⟨2, 9, b_law_read, .none⟩ 83 (fr w.params 83) (fdOf w.params 83) nm_law_read :=
  fnOk_of (c := 82) K (by kernel_rfl) rfl rfl rfl rfl rfl rfl
    (fun s xs hk hl => by obtain ⟨a, b, rfl⟩ := ln2 hl; exact BindsTo.of_eq rfl) (fun j hj => by cases hj)
theorem fn_law_outer (K : (hd1.heap_39 w.params).In G) : FnOk (cx w G lst xs mg mb prog) ⟨1, 3, b_law_outer, .none⟩ 90 (fr w.params 90) (fdOf w.params 90) nm_law_outer :=
  fnOk_of (c := 89) K (by kernel_rfl) rfl rfl rfl rfl rfl rfl
    (fun s xs hk hl => by obtain ⟨a, rfl⟩ := ln1 hl; exact BindsTo.of_eq rfl) (fun j hj => by cases hj)
theorem fn_law (K : (hd1.heap_39 w.params).In G) : FnOk (cx w G lst xs mg mb prog) ⟨1, 3, b_law, .none⟩ 97 (fr w.params 97) (fdOf w.params 97) nm_law :=
  fnOk_of (c := 96) K (by kernel_rfl) rfl rfl rfl rfl rfl rfl
    (fun s xs hk hl => by obtain ⟨a, rfl⟩ := ln1 hl; exact BindsTo.of_eq rfl) (fun j hj => by cases hj)

theorem fns_ok (K : (hd1.heap_39 w.params).In G) : ∀ (g : Nat) (fn : Fn), (cx w G lst xs mg mb prog).F[g]? = some fn → ∃ a o fd N, (cx w G lst xs mg mb prog).L.fa[g]? = some a ∧ FnOk (cx w G lst xs mg mb prog) fn a o fd N := by
  intro g fn e
  have hg : g < 11 := by
    rcases Nat.lt_or_ge g 11 with h | h
    · exact h
    · have e2 : funs[g]? = some fn := e
      rw [List.getElem?_eq_none (show funs.length ≤ g from h)] at e2
      cases e2
  match g, hg, e with
  | 0, _, e => cases e; exact ⟨_, _, _, _, rfl, fn_dict_replace_saxutils K⟩
  | 1, _, e => cases e; exact ⟨_, _, _, _, rfl, fn_escape K⟩
  | 2, _, e => cases e; exact ⟨_, _, _, _, rfl, fn_unescape K⟩
  | 3, _, e => cases e; exact ⟨_, _, _, _, rfl, fn_quoteattr K⟩
  | 4, _, e => cases e; exact ⟨_, _, _, _, rfl, fn_law_text K⟩
  | 5, _, e => cases e; exact ⟨_, _, _, _, rfl, fn_law_document K⟩
  | 6, _, e => cases e; exact ⟨_, _, _, _, rfl, fn_law_written K⟩
  | 7, _, e => cases e; exact ⟨_, _, _, _, rfl, fn_law_value K⟩
  | 8, _, e => cases e; exact ⟨_, _, _, _, rfl, fn_law_read K⟩
  | 9, _, e => cases e; exact ⟨_, _, _, _, rfl, fn_law_outer K⟩
  | 10, _, e => cases e; exact ⟨_, _, _, _, rfl, fn_law K⟩

end
end Mine

end

section
open PySem PySem.Calls PyProof.Rows PySem.W
set_option maxRecDepth 100000
set_option maxHeartbeats 8000000
namespace Mine
theorem ints_all2 {L : Pl} {β : List Addr} {T : Nat} : ∀ {vals : List Value} {xs : List Int}, IntsAre vals xs → All2 (VR L β T) (xs.map fun i => V.int i) vals := by
  intro vals xs h
  induction h with
  | nil => trivial
  | cons n t h ih => exact ⟨⟨t, rfl⟩, ih⟩
section
variable {w : World} {G : Heap} {lst : Addr} {xs : List Int} {mg mb : Str → Option Value} {prog : Program}
theorem ns_at {h : Heap} {a : Addr} {f : Str → Option Value} {o : Obj} {es : Array DictEntry} {ep : Nat} (n : h.Ns a f) (ho : h.get? a = some o) (hd : o.data = .dict es ep) (x : Str) : f x = nsFind es x := by
  obtain ⟨o', es', ep', ho', hd', _, e⟩ := n
  rw [ho] at ho'
  cases ho'
  rw [hd] at hd'
  cases hd'
  exact (e x).symm

noncomputable def gArr (P : Params) : Array DictEntry := match (fr P 3).data with | .dict es _ => es | _ => #[]
theorem key_at (K : (hd1.heap_39 w.params).In G) (hg : G.Ns mainGlobals mg) (x : Str) : mg x = nsFind (gArr w.params) x := ns_at hg (fr_at K 3 rfl) (es := gArr w.params) (ep := 20) rfl x
theorem cx_ok (K : (hd1.heap_39 w.params).In G) (hn : G.NoLimit) (hg : G.Ns mainGlobals mg) (hb : G.Ns builtinsNs mb) (hbi : ∀ x : Str, x ≠ "__name__" → mb x = bootBuiltins x) {vals : List Value} (hl : G.IsList lst vals.toArray) (hi : IntsAre vals xs) (hx : xs.length ≤ 63)
     : (cx w G lst xs mg mb prog).Ok where
  nolimit := hn
  booked := ⟨fun _ => none, ⟨_, #[], 0, fr_at K 2 rfl, rfl, (fun e he => by simp at he), fun _ => rfl⟩, rfl⟩
  g := hg
  b := hb
  fn := by
    intro i a e
    have key := key_at K hg
    have hi : i < 11 := by
      rcases Nat.lt_or_ge i 11 with h | h
      · exact h
      · have e2 : ([21, 30, 39, 48, 55, 62, 69, 76, 83, 90, 97] : List Addr)[i]? = some a := e
        rw [List.getElem?_eq_none (show ([21, 30, 39, 48, 55, 62, 69, 76, 83, 90, 97] : List Addr).length ≤ i from h)] at e2
        cases e2
    match i, hi, e with
    | 0, _, e => cases e; exact ⟨(key _).trans (by kernel_rfl), _, _, fr_at K 21 rfl, rfl⟩
    | 1, _, e => cases e; exact ⟨(key _).trans (by kernel_rfl), _, _, fr_at K 30 rfl, rfl⟩
    | 2, _, e => cases e; exact ⟨(key _).trans (by kernel_rfl), _, _, fr_at K 39 rfl, rfl⟩
    | 3, _, e => cases e; exact ⟨(key _).trans (by kernel_rfl), _, _, fr_at K 48 rfl, rfl⟩
    | 4, _, e => cases e; exact ⟨(key _).trans (by kernel_rfl), _, _, fr_at K 55 rfl, rfl⟩
    | 5, _, e => cases e; exact ⟨(key _).trans (by kernel_rfl), _, _, fr_at K 62 rfl, rfl⟩
    | 6, _, e => cases e; exact ⟨(key _).trans (by kernel_rfl), _, _, fr_at K 69 rfl, rfl⟩
    | 7, _, e => cases e; exact ⟨(key _).trans (by kernel_rfl), _, _, fr_at K 76 rfl, rfl⟩
    | 8, _, e => cases e; exact ⟨(key _).trans (by kernel_rfl), _, _, fr_at K 83 rfl, rfl⟩
    | 9, _, e => cases e; exact ⟨(key _).trans (by kernel_rfl), _, _, fr_at K 90 rfl, rfl⟩
    | 10, _, e => cases e; exact ⟨(key _).trans (by kernel_rfl), _, _, fr_at K 97 rfl, rfl⟩
  fns := by
    intro i hi
    match i, hi with
    | 0, _ => exact ⟨_, rfl⟩
    | 1, _ => exact ⟨_, rfl⟩
    | 2, _ => exact ⟨_, rfl⟩
    | 3, _ => exact ⟨_, rfl⟩
    | 4, _ => exact ⟨_, rfl⟩
    | 5, _ => exact ⟨_, rfl⟩
    | 6, _ => exact ⟨_, rfl⟩
    | 7, _ => exact ⟨_, rfl⟩
    | 8, _ => exact ⟨_, rfl⟩
    | 9, _ => exact ⟨_, rfl⟩
    | 10, _ => exact ⟨_, rfl⟩
  bi := by
    intro n
    have key := key_at K hg
    cases n <;> exact ⟨(key _).trans (by kernel_rfl), (hbi _ (by decide +kernel)).trans (by decide +kernel)⟩
  ext := by
    intro j o e
    have empty : ∀ a : Addr, G.get? a = some { cls := .type "dict", data := .dict #[] } → OR w ⟨[21, 30, 39, 48, 55, 62, 69, 76, 83, 90, 97], [lst, 22, 31, 40]⟩ [] 0 (.dict true 0 []) { cls := .type "dict", data := .dict #[] } :=
      fun a _ => ⟨#[], rfl, trivial, by simp, by simp⟩
    match j, e with
    | 0, e =>
      cases e
      obtain ⟨⟨cl, d, da, sl⟩, ho, rfl, n, rfl⟩ := hl
      refine ⟨lst, _, rfl, ho, ⟨_, n, d, sl, rfl, ?_, by rw [List.length_map]; unfold LIM; omega⟩, fun z => absurd rfl (z _)⟩
      exact ints_all2 hi
    | 1, e => cases e; exact ⟨22, _, rfl, fr_at K 22 rfl, empty 22 (fr_at K 22 rfl), fun _ => by decide⟩
    | 2, e => cases e; exact ⟨31, _, rfl, fr_at K 31 rfl, empty 31 (fr_at K 31 rfl), fun _ => by decide⟩
    | 3, e => cases e; exact ⟨40, _, rfl, fr_at K 40 rfl, empty 40 (fr_at K 40 rfl), fun _ => by decide⟩
    | j + 4, e => exact absurd e (by intro z; cases z)
end
end Mine

end

section
open PySem PySem.Calls PyProof.Rows PySem.W
set_option maxRecDepth 100000
set_option maxHeartbeats 8000000
namespace Mine

theorem law_walk {w : World} {prog : Program} {G : Heap} {lst : Addr} {xs : List Int} {mg mb : Str → Option Value} {vals : List Value} {sc : Scope} {env : Env} {A : Around} {s : Shared} {Q : Flow → Shared → Prop} {E : Value → Shared → Prop} {n d : Nat} {m' : M} {h' : Hp} {m : Str → Option Value}
    (K : (hd1.heap_39 w.params).In G) (hn : G.NoLimit) (hg : G.Ns mainGlobals mg) (hb : G.Ns builtinsNs mb) (hbi : ∀ x : Str, x ≠ "__name__" → mb x = bootBuiltins x) (hl : G.IsList lst vals.toArray) (hi : IntsAre vals xs) (hx : xs.length ≤ 63)
    (F : Fr G G.objs.size s.heap m) (hm : m = fun x => List.lookup x [(Str.ofString "script", Value.ref lst)]) (ht : 0 < s.toks)
    (hok : b_law.ok nm_law sc = true) (V₀ : EnvOk (cx w G lst xs mg mb prog) nm_law sc env G.objs.size) (hA : AOk A d)
    (hs : (Mi funs (X0 xs) n d).ex b_law [some (.ext 0), none, none] [] = some (.ret (.bool true), m', h'))
    (k : ∀ H' T', (∀ b o, G.get? b = some o → H'.get? b = some o) → Q (.ret (.bool true)) { s with heap := H', toks := T' }) :
    wpAny (model prog w) A (execs (b_law.back nm_law) env) Q E s := by
  have ok0 : (cx w G lst xs mg mb prog).Ok := cx_ok K hn hg hb hbi hl hi hx
  have hnone : G.get? G.objs.size = none := by
    cases e : G.get? G.objs.size with
    | none => rfl
    | some o => exact absurd (Heap.lt_size e) (Nat.lt_irrefl _)
  have gd : Gd w (cx w G lst xs mg mb prog).L G [] s.toks [] s.heap :=
    ⟨rfl, List.nodup_nil, (fun k o a e => by cases e), F.keep, (fun a h => by cases h), ht, ⟨_, fr_at K 3 rfl⟩, (fun a h => by cases h)⟩
  have fm : Frm (cx w G lst xs mg mb prog).L G nm_law [] s.toks [some (.ext 0), none, none] G.objs.size s.heap := by
    subst hm
    exact ⟨⟨_, F.ns, ⟨_, rfl, lst, rfl, rfl⟩, rfl, rfl, trivial⟩, (fun h => by cases h), hnone⟩
  refine (snd ok0 (fns_ok K) n d).ex b_law nm_law sc env G.objs.size A _ m' [] h' _ hok V₀ hA hs s [] Q E gd fm fun x β' H' T' t x1 g1 f1 r => ?_
  obtain ⟨y, rfl, r⟩ := r
  have hy : y = .bool true := r
  subst hy
  exact k H' T' g1.base

theorem aok {env : Env} : AOk (callerA.deeper env) 20 :=
  ⟨rfl, by show 1 + claimMargin + 1 + 20 < recursionLimit; decide +kernel, by show 4 + 3 + 3 * 20 + 100 < cLine; decide +kernel⟩

theorem law_top (plain : ∀ xs : List Int, xs.length ≤ 63 → ∃ n m' h', (Mi funs (X0 xs) n 20).ex b_law [some (.ext 0), none, none] [] = some (.ret (.bool true), m', h')) : PySem.Challenge.rw_at0008_02.Holds := hd1 (by
  k_go0
  rename_i w s₀ s₁ mg mb G Y fa o pm doc kV ho hg KX XX VV GL T B TE TW ad1 oo MM a6 a7 hcd xs hs hlay0 hL1 hr1 hl2 p4 p3 lst vals p5 hL ra w1 r0 hI hr hc1 hc2 K0 hD h1 F N0
  clear hcd hD
  have hx : xs.length ≤ 63 := by omega
  obtain ⟨n, m', h', e⟩ := plain xs hx
  refine law_walk (G := s₁.heap) (sc := (fdOf w.params 97).scope) (m := _) KX T.nolimit T.g T.b T.builtins hL hI hx F rfl (Nat.succ_pos _) (by kernel_rfl) ⟨rfl, rfl, rfl, rfl, rfl, rfl, by decide +kernel⟩ aok e fun H' T' hk => ?_
  refine ⟨.inl ⟨_, _, _, rfl, raisesW_false ?_, .bool true, ?_, unshared_nil⟩, hk, rfl, hg⟩
  · wrow_none_raised
  · wrow_post)
end Mine

end

open PySem PySem.W PyProof.Rows
set_option maxRecDepth 100000 in
set_option maxHeartbeats 8000000 in
theorem PySem.Challenge.cw_at0008_02_holds : PySem.Challenge.rw_at0008_02.Holds := by
  exact Mine.law_top Mine.law_true
