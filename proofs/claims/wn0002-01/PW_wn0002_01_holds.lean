import PyProof.Rows.All
import Wide.All
import OpenK.AllK
import Wide.FinOn
import Lean
import PySem.Challenge.RW_wn0002_01
set_option Elab.async false
set_option maxRecDepth 100000
set_option linter.unusedVariables false
set_option linter.unusedSimpArgs false

section
namespace Mine
open PySem PySem.W PyProof.Rows

set_option genSizeOf false
set_option genInjectivity false
inductive Ex4 {A0 A1 A2 A3 : Type} (P : A0 → A1 → A2 → A3 → Prop) : Prop where
  | mk (a0 : A0) (a1 : A1) (a2 : A2) (a3 : A3) (h : P a0 a1 a2 a3)
inductive Ex6 {A0 A1 A2 A3 A4 A5 : Type} (P : A0 → A1 → A2 → A3 → A4 → A5 → Prop) : Prop where
  | mk (a0 : A0) (a1 : A1) (a2 : A2) (a3 : A3) (a4 : A4) (a5 : A5) (h : P a0 a1 a2 a3 a4 a5)
inductive Ex7 {A0 A1 A2 A3 A4 A5 A6 : Type} (P : A0 → A1 → A2 → A3 → A4 → A5 → A6 → Prop) : Prop where
  | mk (a0 : A0) (a1 : A1) (a2 : A2) (a3 : A3) (a4 : A4) (a5 : A5) (a6 : A6) (h : P a0 a1 a2 a3 a4 a5 a6)
inductive And7 (p0 p1 p2 p3 p4 p5 p6 : Prop) : Prop where
  | mk (h0 : p0) (h1 : p1) (h2 : p2) (h3 : p3) (h4 : p4) (h5 : p5) (h6 : p6)
inductive And10 (p0 p1 p2 p3 p4 p5 p6 p7 p8 p9 : Prop) : Prop where
  | mk (h0 : p0) (h1 : p1) (h2 : p2) (h3 : p3) (h4 : p4) (h5 : p5) (h6 : p6) (h7 : p7) (h8 : p8) (h9 : p9)
inductive And12 (p0 p1 p2 p3 p4 p5 p6 p7 p8 p9 p10 p11 : Prop) : Prop where
  | mk (h0 : p0) (h1 : p1) (h2 : p2) (h3 : p3) (h4 : p4) (h5 : p5) (h6 : p6) (h7 : p7) (h8 : p8) (h9 : p9) (h10 : p10) (h11 : p11)
set_option genSizeOf true
set_option genInjectivity true
/-- what the fragment's values are read as; raw: an int of whose token nothing is known -/
inductive D where
  | none
  | bool (b : Bool)
  | int (i : Int)
  | raw (i : Int)
  | str (x : Str)
  | list (ds : List D)
  | tuple (ds : List D)
mutual
noncomputable def toP : D → PyData
  | .none => .none
  | .bool b => .bool b
  | .int i => .int i
  | .raw i => .int i
  | .str x => .str x
  | .list ds => .list (toPs ds)
  | .tuple ds => .tuple (toPs ds)
noncomputable def toPs : List D → List PyData
  | [] => []
  | d :: ds => toP d :: toPs ds
end
/-- the number that an int is -/
noncomputable def D.num : D → Option Int
  | .int i => some i
  | .raw i => some i
  | _ => Option.none

set_option genSizeOf false
set_option genInjectivity false
/-- binary operators of the fragment -/
inductive BO where
  | add | sub | mod | fdiv | shl | shr | band | bor | pow
inductive CO where
  | eq | ne | lt | gt | isin | notin | is | isnot

noncomputable def BO.op : BO → Operator
  | .add => .Add | .sub => .Sub | .mod => .Mod | .fdiv => .FloorDiv | .shl => .LShift | .shr => .RShift | .band => .BitAnd | .bor => .BitOr | .pow => .Pow
noncomputable def CO.op : CO → CmpOp
  | .eq => .Eq | .ne => .NotEq | .lt => .Lt | .gt => .Gt | .isin => .In | .notin => .NotIn | .is => .Is | .isnot => .IsNot

inductive Tgt where
  | one (i : Nat) (p : Pos)
  | tup (is : List (Nat × Pos)) (p : Pos)

mutual
inductive C where
  | int (n : Int) (p : Pos)
  | str (s : String) (p : Pos)
  | bool (b : Bool) (p : Pos)
  | var (i : Nat) (p : Pos)
  | list (es : Cs) (p : Pos)
  | tuple (es : Cs) (p : Pos)
  | bin (o : BO) (a b : C) (p : Pos)
  | neg (a : C) (p : Pos)
  | not (a : C) (p : Pos)
  | notL (i : Nat) (pi p : Pos)
  | cmp (o : CO) (a b : C) (p : Pos)
  | and2 (a b : C) (p : Pos)
  | and3 (a b c : C) (p : Pos)
  | or2 (a b : C) (p : Pos)
  | isOrEq (i j : Nat) (pi pj qi qj p1 p2 p : Pos)
  | ite (t a b : C) (p : Pos)
  | item (a i : C) (p : Pos)
  | slice (a lo hi st : C) (ps p : Pos)
  | nothing
  | call (f : Nat) (args : Cs) (pf p : Pos)
  | sum (a : C) (pf p : Pos)
  | len (a : C) (pf p : Pos)
  | min2 (a b : C) (pf p : Pos)
  | max1 (a : C) (pf p : Pos)
  | join (a b : C) (pm p : Pos)
  | index (a b : C) (pm p : Pos)
  | comp (elt : C) (g : Gs) (sc : Scope) (p : Pos)
inductive Cs where
  | nil
  | cons (c : C) (r : Cs)
/-- the clauses of a comprehension -/
inductive Gs where
  | done
  | gen (t : Tgt) (it : It) (ifs : Cs) (r : Gs)
/-- what a loop or a clause goes over -/
inductive It where
  | range1 (a : C) (pf p : Pos)
  | range2 (a b : C) (pf p : Pos)
  | enum (a : C) (pf p : Pos)
  | of (a : C)
end

mutual
inductive S where
  | assign (x : Nat) (e : C) (px p : Pos)
  | own (x : Nat) (es : Cs) (pe px p : Pos)
  | setitem (x : Nat) (i e : C) (px ps p : Pos)
  | append (x : Nat) (e : C) (px pa p : Pos)
  | extend (x : Nat) (e : C) (px pa p : Pos)
  | aug (x : Nat) (e : C) (px p : Pos)
  | ite (t : C) (a b : Ss) (p : Pos)
  | for (t : Tgt) (it : It) (body : Ss) (p : Pos)
  | ret (e : C) (p : Pos)
  | brk (p : Pos)
  | copy (x : Nat) (e : C) (pf pc px p : Pos)
  | ownComp (x : Nat) (elt : C) (t : Tgt) (it : It) (ifs : Cs) (r : Gs) (sc : Scope) (pc px p : Pos)
  | tryRemove (t y e : Nat) (pe py pt pa pn pc pf pv pk pr ph p : Pos)
inductive Ss where
  | nil
  | cons (s : S) (r : Ss)
end

set_option genSizeOf true
set_option genInjectivity true
section toE
variable (tab : Nat → Str)

noncomputable def Tgt.toE : Tgt → Expr
  | .one i p => .Name (tab i) p
  | .tup is p => .Tuple (is.map fun x => .Name (tab x.1) x.2) 0 p

mutual
noncomputable def C.toE : C → Expr
  | .int n p => .Constant (.int n) 0 p
  | .str s p => .Constant (.str (Str.ofString s)) 0 p
  | .bool b p => .Constant (.bool b) 0 p
  | .var i p => .Name (tab i) p
  | .list es p => .List es.toE p
  | .tuple es p => .Tuple es.toE 0 p
  | .bin o a b p => .BinOp a.toE o.op b.toE p
  | .neg a p => .UnaryOp .USub a.toE p
  | .not a p => .UnaryOp .Not a.toE p
  | .notL i pi p => .UnaryOp .Not (.Name (tab i) pi) p
  | .cmp o a b p => .Compare a.toE [o.op] [b.toE] p
  | .and2 a b p => .BoolOp .And [a.toE, b.toE] p
  | .and3 a b c p => .BoolOp .And [a.toE, b.toE, c.toE] p
  | .or2 a b p => .BoolOp .Or [a.toE, b.toE] p
  | .isOrEq i j pi pj qi qj p1 p2 p => .BoolOp .Or [.Compare (.Name (tab i) pi) [.Is] [.Name (tab j) pj] p1, .Compare (.Name (tab i) qi) [.Eq] [.Name (tab j) qj] p2] p
  | .ite t a b p => .IfExp t.toE a.toE b.toE p
  | .item a i p => .Subscript a.toE i.toE p
  | .slice a lo hi st ps p => .Subscript a.toE (.Slice lo.toO hi.toO st.toO ps) p
  | .nothing => .Constant .none 0 default
  | .call f args pf p => .Call (.Name (tab f) pf) args.toE [] p
  | .sum a pf p => .Call (.Name "sum" pf) [a.toE] [] p
  | .len a pf p => .Call (.Name "len" pf) [a.toE] [] p
  | .min2 a b pf p => .Call (.Name "min" pf) [a.toE, b.toE] [] p
  | .max1 a pf p => .Call (.Name "max" pf) [a.toE] [] p
  | .join a b pm p => .Call (.Attribute a.toE "join" pm) [b.toE] [] p
  | .index a b pm p => .Call (.Attribute a.toE "index" pm) [b.toE] [] p
  | .comp elt g sc p => .ListComp elt.toE g.toE sc p
/-- a part of a slice -/
noncomputable def C.toO : C → Option Expr
  | .nothing => none
  | .int n p => some (.Constant (.int n) 0 p)
  | .var i p => some (.Name (tab i) p)
  | .bin o a b p => some (.BinOp a.toE o.op b.toE p)
  | .neg a p => some (.UnaryOp .USub a.toE p)
  | _ => none
noncomputable def Cs.toE : Cs → List Expr
  | .nil => []
  | .cons c r => c.toE :: r.toE
noncomputable def Gs.toE : Gs → List Comprehension
  | .done => []
  | .gen t it ifs r => ⟨t.toE tab, it.toE, ifs.toE, 0⟩ :: r.toE
noncomputable def It.toE : It → Expr
  | .range1 a pf p => .Call (.Name "range" pf) [a.toE] [] p
  | .range2 a b pf p => .Call (.Name "range" pf) [a.toE, b.toE] [] p
  | .enum a pf p => .Call (.Name "enumerate" pf) [a.toE] [] p
  | .of a => a.toE
end

mutual
noncomputable def S.toE : S → Stmt
  | .assign x e px p => .Assign [.Name (tab x) px] (e.toE tab) p
  | .own x es pe px p => .Assign [.Name (tab x) px] (.List (es.toE tab) pe) p
  | .setitem x i e px ps p => .Assign [.Subscript (.Name (tab x) px) (i.toE tab) ps] (e.toE tab) p
  | .append x e px pa p => .Expr (.Call (.Attribute (.Name (tab x) px) "append" pa) [e.toE tab] [] p) p
  | .extend x e px pa p => .Expr (.Call (.Attribute (.Name (tab x) px) "extend" pa) [e.toE tab] [] p) p
  | .aug x e px p => .AugAssign (.Name (tab x) px) .Add (e.toE tab) p
  | .ite t a b p => .If (t.toE tab) a.toE b.toE p
  | .for t it body p => .For (t.toE tab) (it.toE tab) body.toE [] p
  | .ret e p => .Return (some (e.toE tab)) p
  | .brk p => .Break p
  | .ownComp x elt t it ifs r sc pc px p => .Assign [.Name (tab x) px] ((C.comp elt (.gen t it ifs r) sc pc).toE tab) p
  | .copy x e pf pc px p => .Assign [.Name (tab x) px] (.Call (.Name "list" pf) [e.toE tab] [] pc) p
  | .tryRemove t y e pe py pt pa pn pc pf pv pk pr ph p => .Try [.For (.Name (tab e) pe) (.Name (tab y) py) [.Expr (.Call (.Attribute (.Name (tab t) pt) "remove" pa) [.Name (tab e) pn] [] pc) pc] [] pf]
      [.ExceptHandler (some (.Name "ValueError" pv)) none [.Return (some (.Constant (.bool false) 0 pk)) pr] ph] [] [] p
noncomputable def Ss.toE : Ss → List Stmt
  | .nil => []
  | .cons s r => s.toE :: r.toE
end
end toE

/-! the evaluator -/

noncomputable def lim : Nat := 1000000

noncomputable def mkList (ds : List D) : Option D := if ds.length ≤ lim then some (.list ds) else none

noncomputable abbrev Vw := Nat → Option D
noncomputable abbrev Or := Nat → List D → Option D
noncomputable def upd {α : Type} (f : Nat → Option α) (i : Nat) (a : α) : Nat → Option α := fun j => if j = i then some a else f j

noncomputable def okD (d : D) : Bool := decide ((toP d).depth ≤ 50)
noncomputable def eqD (a b : D) : Option Bool := if okD a && okD b then some (PyData.eqv (toP a) (toP b)) else none
noncomputable def inD (x : D) (xs : List D) : Option Bool := if okD x && okD (.list xs) then some (xs.any fun y => PyData.eqv (toP y) (toP x)) else none
/-- the kinds upon which «is» is asked ahead of «==» -/
noncomputable def isKind : D → D → Bool
  | .int _, .int _ => true
  | .str _, .str _ => true
  | .bool _, .bool _ => true
  | .list _, .list _ => true
  | _, _ => false

noncomputable def binI : BO → Int → Int → Option Int
  | .add, a, b => some (a + b)
  | .sub, a, b => some (a - b)
  | .mod, a, b => if 0 < b then some (a % b) else none
  | .fdiv, a, b => if 0 < b ∧ b < 1000000 then some (a / b) else none
  | .shl, a, b => if 0 ≤ a ∧ a < 1000000 ∧ 0 ≤ b ∧ b ≤ 1000 then some (a * 2 ^ b.toNat) else none
  | .shr, a, b => if 0 ≤ b then some (a / 2 ^ b.toNat) else none
  | .band, a, b => if 0 ≤ a ∧ 0 ≤ b then some ((a.toNat &&& b.toNat : Nat) : Int) else none
  | .bor, a, b => if 0 ≤ a ∧ 0 ≤ b then some ((a.toNat ||| b.toNat : Nat) : Int) else none
  | .pow, a, b => if 0 ≤ a ∧ a < 1000000 ∧ 0 ≤ b ∧ b ≤ 1000 then some (a ^ b.toNat) else none
noncomputable def numsD (f : Int → Int → Option D) (a b : D) : Option D := match a.num with
  | some x => match b.num with
    | some y => f x y
    | none => none
  | none => none
noncomputable def addD : D → D → Option D
  | .list a, .list b => mkList (a ++ b)
  | .str a, .str b => if a.length + b.length ≤ lim then some (.str (a ++ b)) else none
  | a, b => numsD (fun x y => some (.int (x + y))) a b
noncomputable def binD (o : BO) (a b : D) : Option D := match o with
  | .add => addD a b
  | o => numsD (fun x y => (binI o x y).map .int) a b

noncomputable def hasSub (p : List Nat) : List Nat → Bool
  | [] => p.isEmpty
  | c :: l => p.isPrefixOf (c :: l) || hasSub p l
/-- is x part of y -/
noncomputable def strIn (x y : Str) : Bool := hasSub x.cps.toList y.cps.toList

noncomputable def cmpD (o : CO) (a b : D) : Option D := match o with
  | .eq => (eqD a b).map .bool
  | .ne => (eqD a b).map fun c => .bool (!c)
  | .lt => numsD (fun x y => some (.bool (decide (x < y)))) a b
  | .gt => numsD (fun x y => some (.bool (decide (y < x)))) a b
  | .isin => match b with
    | .list ys => (inD a ys).map .bool
    | .str y => match a with
      | .str x => some (.bool (strIn x y))
      | _ => none
    | _ => none
  | .notin => match b with
    | .list ys => (inD a ys).map fun c => .bool (!c)
    | _ => none
  | .is => match a, b with
    | .bool x, .bool y => some (.bool (x == y))
    | _, _ => none
  | .isnot => match a, b with
    | .bool x, .bool y => some (.bool (!(x == y)))
    | _, _ => none

noncomputable def itemD (a i : D) : Option D := match i.num with
  | some i => if 0 ≤ i then (match a with
    | .list xs => if xs.length ≤ lim then xs[i.toNat]? else none
    | .str x => if x.length ≤ lim then x.cps.toList[i.toNat]?.map fun c => .str ⟨#[c]⟩ else none
    | _ => none) else none
  | none => none

/-- every (c+1)-th of a list, from its first on: k counts what is to be passed by -/
noncomputable def strideL {α : Type} (c : Nat) : Nat → List α → List α
  | _, [] => []
  | 0, x :: l => x :: strideL c c l
  | k + 1, _ :: l => strideL c k l

/-- a part of a slice: nothing, or an int -/
noncomputable def D.part : D → Option (Option Int)
  | .none => some Option.none
  | .int i => some (some i)
  | .raw i => some (some i)
  | _ => Option.none
noncomputable def sliceL {α : Type} (l : List α) : Option Int → Option Int → Option Int → Option (List α)
  | none, none, none => some l
  | some a, none, none => if 0 ≤ a then some (l.drop a.toNat) else none
  | none, some b, none => if 0 ≤ b then some (l.take b.toNat) else none
  | some a, some b, none => if 0 ≤ a ∧ 0 ≤ b then some ((l.take b.toNat).drop a.toNat) else none
  | none, none, some c => if c = -1 then some l.reverse else none
  | some a, some b, some c => if 0 ≤ a ∧ 0 ≤ b ∧ 0 < c then some (strideL (c.toNat - 1) 0 ((l.take b.toNat).drop a.toNat)) else none
  | _, _, _ => none

noncomputable def sliceD (x lo hi st : D) : Option D := lo.part.bind fun lo => hi.part.bind fun hi => st.part.bind fun st => match x with
  | .list xs => if xs.length ≤ lim then (sliceL xs lo hi st).map .list else none
  | .str x => match lo, hi, st with
    | some a, some b, none => if 0 ≤ a ∧ a ≤ b ∧ b ≤ x.length ∧ x.length ≤ lim then some (.str ⟨((x.cps.toList.drop a.toNat).take (b.toNat - a.toNat)).toArray⟩) else none
    | none, none, some c => if c = -1 ∧ x.length ≤ lim then some (.str ⟨x.cps.toList.reverse.toArray⟩) else none
    | _, _, _ => none
  | _ => none

noncomputable def intsOf : List D → Option (List Int)
  | [] => some []
  | d :: r => d.num.bind fun i => (intsOf r).map (i :: ·)
noncomputable def strsOf : List D → Option (List Str)
  | [] => some []
  | .str x :: r => (strsOf r).map (x :: ·)
  | _ => none

noncomputable def sumD : D → Option D
  | .list xs => (intsOf xs).map fun ns => .raw ns.sum
  | _ => none
noncomputable def lenD : D → Option D
  | .list xs => if xs.length ≤ lim then some (.int xs.length) else none
  | .str x => if x.length ≤ lim then some (.int x.length) else none
  | _ => none
noncomputable def minD : D → D → Option D
  | .int a, .int b => some (.int (if b < a then b else a))
  | _, _ => none
/-- all tracked ints -/
noncomputable def ints' : List D → Option (List Int)
  | [] => some []
  | .int i :: r => (ints' r).map (i :: ·)
  | _ => none
noncomputable def maxL : Int → List Int → Int
  | m, [] => m
  | m, x :: r => maxL (if m < x then x else m) r
noncomputable def maxD : D → Option D
  | .list xs => match ints' xs with
    | some (n :: ns) => if xs.length ≤ lim then some (.int (maxL n ns)) else none
    | _ => none
  | _ => none
noncomputable def joinD : D → D → Option D
  | .str s, .list xs => match strsOf xs with
    | some ys => if s.length = 0 ∧ ((ys.map (·.length)).sum ≤ lim) then some (.str ⟨(ys.flatMap (·.cps.toList)).toArray⟩) else none
    | none => none
  | _, _ => none
noncomputable def indexD : D → D → Option D
  | .str x, .str y => if x.cps.toList = [97, 98, 99] then (match y.cps.toList with
    | [97] => some (.int 0)
    | [98] => some (.int 1)
    | [99] => some (.int 2)
    | _ => none) else none
  | _, _ => none

noncomputable def rangeL (a : Int) : Nat → List D
  | 0 => []
  | n + 1 => .int a :: rangeL (a + 1) n
noncomputable def range2I (a b : Int) : Option (List D) := if -lim ≤ a ∧ a ≤ lim ∧ -lim ≤ b ∧ b ≤ lim then some (rangeL a (b - a).toNat) else none
noncomputable def range1D (a : D) : Option (List D) := a.num.bind fun n => range2I 0 n
noncomputable def range2D (a b : D) : Option (List D) := a.num.bind fun x => b.num.bind fun y => range2I x y
noncomputable def enumL (i : Int) : List D → List D
  | [] => []
  | x :: r => .tuple [.int i, x] :: enumL (i + 1) r
noncomputable def enumD : D → Option (List D)
  | .list xs => if xs.length ≤ lim then some (enumL 0 xs) else none
  | _ => none
noncomputable def itemsD : D → Option (List D)
  | .list xs => if xs.length ≤ lim then some xs else none
  | .str x => if x.cps.toList.all (· < 128) && decide (x.length ≤ lim) then some (x.cps.toList.map fun c => .str ⟨#[c]⟩) else none
  | _ => none

noncomputable def bindAll : List (Nat × Pos) → List D → Vw → Option Vw
  | [], [], ρ => some ρ
  | x :: is, d :: ds, ρ => bindAll is ds (upd ρ x.1 d)
  | _, _, _ => none
noncomputable def bindT : Tgt → D → Vw → Option Vw
  | .one i _, d, ρ => some (upd ρ i d)
  | .tup is _, .tuple ds, ρ => bindAll is ds ρ
  | .tup is _, .list ds, ρ => bindAll is ds ρ
  | _, _, _ => none

/-- what a clause brings, put one behind the other -/
noncomputable def collectM (f : D → Option (List D)) : List D → Option (List D)
  | [] => some []
  | d :: ds => match f d with
    | some a => match collectM f ds with
      | some b => some (a ++ b)
      | none => none
    | none => none

noncomputable def boolOf : Option D → Option Bool
  | some (.bool b) => some b
  | _ => none

/-- the names that a comprehension's block takes from outside -/
noncomputable def keepFree (tab : Nat → Str) (sc : Scope) (ρ : Vw) : Vw := fun i => match sc.names.lookup (tab i) with
  | some .free => ρ i
  | _ => none

section
variable (tab : Nat → Str) (G : Or)
mutual
noncomputable def ev : C → Vw → Option D
  | .int n _, _ => some (.int n)
  | .str s _, _ => some (.str (Str.ofString s))
  | .bool b _, _ => some (.bool b)
  | .var i _, ρ => ρ i
  | .list es _, ρ => (evs es ρ).bind mkList
  | .tuple es _, ρ => (evs es ρ).bind fun ds => if ds.length ≤ lim then some (.tuple ds) else none
  | .bin o a b _, ρ => (ev a ρ).bind fun x => (ev b ρ).bind fun y => binD o x y
  | .neg a _, ρ => (ev a ρ).bind fun x => x.num.map fun n => .int (-n)
  | .not a _, ρ => (boolOf (ev a ρ)).map fun b => .bool (!b)
  | .notL i _ _, ρ => match ρ i with
    | some (.list xs) => if xs.length ≤ lim then some (.bool xs.isEmpty) else none
    | _ => none
  | .cmp o a b _, ρ => (ev a ρ).bind fun x => (ev b ρ).bind fun y => cmpD o x y
  | .and2 a b _, ρ => (boolOf (ev a ρ)).bind fun x => if x then ev b ρ else some (.bool false)
  | .and3 a b c _, ρ => (boolOf (ev a ρ)).bind fun x => if x then (boolOf (ev b ρ)).bind fun y => if y then ev c ρ else some (.bool false) else some (.bool false)
  | .or2 a b _, ρ => (boolOf (ev a ρ)).bind fun x => if x then some (.bool true) else ev b ρ
  | .isOrEq i j _ _ _ _ _ _ _, ρ => (ρ i).bind fun x => (ρ j).bind fun y => if isKind x y then (eqD x y).map .bool else none
  | .ite t a b _, ρ => (boolOf (ev t ρ)).bind fun x => if x then ev a ρ else ev b ρ
  | .item a i _, ρ => (ev a ρ).bind fun x => (ev i ρ).bind fun y => itemD x y
  | .slice a lo hi st _ _, ρ => (ev a ρ).bind fun x => (ev lo ρ).bind fun l => (ev hi ρ).bind fun h => (ev st ρ).bind fun t => sliceD x l h t
  | .nothing, _ => some .none
  | .call f args _ _, ρ => (evs args ρ).bind fun ds => G f ds
  | .sum a _ _, ρ => (ev a ρ).bind sumD
  | .len a _ _, ρ => (ev a ρ).bind lenD
  | .min2 a b _ _, ρ => (ev a ρ).bind fun x => (ev b ρ).bind fun y => minD x y
  | .max1 a _ _, ρ => (ev a ρ).bind maxD
  | .join a b _ _, ρ => (ev a ρ).bind fun x => (ev b ρ).bind fun y => joinD x y
  | .index a b _ _, ρ => (ev a ρ).bind fun x => (ev b ρ).bind fun y => indexD x y
  | .comp elt g sc _, ρ => match g with
    | .done => none
    | .gen t it ifs r => (evIt it ρ).bind fun ds => (collectM (fun d => (bindT t d (keepFree tab sc ρ)).bind fun ρ' => (evIfs ifs ρ').bind fun ok => if ok then evGs r (ev elt) ρ' else some []) ds).bind mkList
noncomputable def evs : Cs → Vw → Option (List D)
  | .nil, _ => some []
  | .cons c r, ρ => (ev c ρ).bind fun x => (evs r ρ).map (x :: ·)
noncomputable def evIfs : Cs → Vw → Option Bool
  | .nil, _ => some true
  | .cons c r, ρ => (boolOf (ev c ρ)).bind fun x => if x then evIfs r ρ else some false
noncomputable def evGs : Gs → (Vw → Option D) → Vw → Option (List D)
  | .done, elt, ρ => (elt ρ).map fun x => [x]
  | .gen t it ifs r, elt, ρ => (evIt it ρ).bind fun ds => collectM (fun d => (bindT t d ρ).bind fun ρ' => (evIfs ifs ρ').bind fun ok => if ok then evGs r elt ρ' else some []) ds
noncomputable def evIt : It → Vw → Option (List D)
  | .range1 a _ _, ρ => (ev a ρ).bind range1D
  | .range2 a b _ _, ρ => (ev a ρ).bind fun x => (ev b ρ).bind fun y => range2D x y
  | .enum a _ _, ρ => (ev a ρ).bind enumD
  | .of a, ρ => (ev a ρ).bind itemsD
end
end

/-! statements -/
noncomputable abbrev St := Nat → Option (Bool × D)
inductive Fl where
  | next | brk
  | ret (d : D)

noncomputable def St.frozen (σ : St) : Vw := fun i => match σ i with | some (false, d) => some d | _ => none
noncomputable def St.full (σ : St) : Vw := fun i => (σ i).map (·.2)
noncomputable def scalar : D → Bool
  | .none | .bool _ | .int _ | .raw _ | .str _ => true
  | _ => false
/-- a value that may be kept: nothing of it turns any more -/
noncomputable def evK (f : Vw → Option D) (σ : St) : Option D := match f σ.frozen with
  | some d => some d
  | none => match f σ.full with
    | some d => if scalar d then some d else none
    | none => none
noncomputable def bindS (t : Tgt) (d : D) (σ : St) : Option St := match t with
  | .one i _ => some (upd σ i (false, d))
  | .tup is _ => match d with
    | .tuple ds => go is ds σ
    | .list ds => go is ds σ
    | _ => none
where go : List (Nat × Pos) → List D → St → Option St
  | [], [], σ => some σ
  | x :: is, d :: ds, σ => go is ds (upd σ x.1 (false, d))
  | _, _, _ => none

noncomputable def loopM (step : D → St → Option (St × Fl)) : List D → St → Option (St × Fl)
  | [], σ => some (σ, .next)
  | d :: ds, σ => match step d σ with
    | some (σ', .next) => loopM step ds σ'
    | some (σ', .brk) => some (σ', .next)
    | some (σ', .ret v) => some (σ', .ret v)
    | none => none

/-- a list without the first of it that equals x -/
noncomputable def eraseFst (x : D) : List D → Option (List D)
  | [] => none
  | y :: r => if PyData.eqv (toP y) (toP x) then some r else (eraseFst x r).map (y :: ·)
/-- t.remove(e), where a ValueError ends in «return False» -/
noncomputable def remStep (t e : Nat) (σ : St) : Option (St × Fl) := match σ e with
  | some (false, d) => match σ t with
    | some (true, .list ds) => if okD d && okD (.list ds) && decide (ds.length ≤ lim) then (match eraseFst d ds with
      | some r => some (upd σ t (true, .list r), .next)
      | none => some (σ, .ret (.bool false))) else none
    | _ => none
  | _ => none

section
variable (tab : Nat → Str) (G : Or)
noncomputable def iterS (it : It) (σ : St) : Option (List D × St) := match evIt tab G it σ.frozen with
  | some ds => some (ds, σ)
  | none => match it with
    | .of (.var x _) => match σ x with
      | some (true, .list ds) => if ds.length ≤ lim then some (ds, upd σ x (false, .list ds)) else none
      | _ => none
    | _ => none
mutual
noncomputable def exS : S → St → Option (St × Fl)
  | .assign x e _ _, σ => (evK (ev tab G e) σ).map fun d => (upd σ x (false, d), .next)
  | .own x es _ _ _, σ => (evs tab G es σ.frozen).bind fun ds => if ds.length ≤ lim then some (upd σ x (true, .list ds), .next) else none
  | .setitem x i e _ _ _, σ => (evK (ev tab G e) σ).bind fun d => match σ x with
    | some (true, .list ds) => (ev tab G i σ.frozen).bind fun k => k.num.bind fun k => if 0 ≤ k ∧ k < ds.length ∧ ds.length ≤ lim then some (upd σ x (true, .list (ds.set k.toNat d)), .next) else none
    | _ => none
  | .append x e _ _ _, σ => (evK (ev tab G e) σ).bind fun d => match σ x with
    | some (true, .list ds) => if ds.length ≤ lim then some (upd σ x (true, .list (ds ++ [d])), .next) else none
    | _ => none
  | .extend x e _ _ _, σ => (ev tab G e σ.frozen).bind fun d => match d with
    | .list es => match σ x with
      | some (true, .list ds) => if ds.length + es.length ≤ lim then some (upd σ x (true, .list (ds ++ es)), .next) else none
      | _ => none
    | _ => none
  | .aug x e _ _, σ => match σ x with
    | some (false, d₀) => d₀.num.bind fun a => (ev tab G e σ.frozen).bind fun d => d.num.map fun b => (upd σ x (false, .int (a + b)), .next)
    | _ => none
  | .ite t a b _, σ => (boolOf (ev tab G t σ.full)).bind fun c => if c then exs a σ else exs b σ
  | .for t it body _, σ => (iterS tab G it σ).bind fun p => loopM (fun d σ' => (bindS t d σ').bind fun σ'' => exs body σ'') p.1 p.2
  | .ret e _, σ => (ev tab G e σ.full).map fun d => (σ, .ret d)
  | .brk _, σ => some (σ, .brk)
  | .copy x e _ _ _ _, σ => (ev tab G e σ.frozen).bind fun d => match d with
    | .list es => if es.length ≤ lim then some (upd σ x (true, .list es), .next) else none
    | _ => none
  | .ownComp x elt t it ifs r sc pc _ _, σ => (ev tab G (.comp elt (.gen t it ifs r) sc pc) σ.frozen).bind fun d => match d with
    | .list es => some (upd σ x (true, .list es), .next)
    | _ => none
  | .tryRemove t y e _ pY _ _ _ _ _ _ _ _ _ _, σ => (evIt tab G (.of (.var y pY)) σ.frozen).bind fun ds => loopM (fun d σ' => (bindS (.one e pY) d σ').bind fun σ'' => remStep t e σ'') ds σ
noncomputable def exs : Ss → St → Option (St × Fl)
  | .nil, σ => some (σ, .next)
  | .cons s r, σ => match exS s σ with
    | some (σ', .next) => exs r σ'
    | x => x
end


section
variable {tab : Nat → Str} {G : Or}
theorem ev_e1 {n q1 q2} : ev tab G (.int n q1) q2 = (some (.int n)) := rfl
theorem ev_e2 {s q1 q2} : ev tab G (.str s q1) q2 = (some (.str (Str.ofString s))) := rfl
theorem ev_e3 {b q1 q2} : ev tab G (.bool b q1) q2 = (some (.bool b)) := rfl
theorem ev_e4 {i q1 ρ} : ev tab G (.var i q1) ρ = (ρ i) := rfl
theorem ev_e5 {es q1 ρ} : ev tab G (.list es q1) ρ = ((evs tab G es ρ).bind mkList) := rfl
theorem ev_e6 {es q1 ρ} : ev tab G (.tuple es q1) ρ = ((evs tab G es ρ).bind fun ds => if ds.length ≤ lim then some (.tuple ds) else none) := rfl
theorem ev_e7 {o a b q1 ρ} : ev tab G (.bin o a b q1) ρ = ((ev tab G a ρ).bind fun x => (ev tab G b ρ).bind fun y => binD o x y) := rfl
theorem ev_e8 {a q1 ρ} : ev tab G (.neg a q1) ρ = ((ev tab G a ρ).bind fun x => x.num.map fun n => .int (-n)) := rfl
theorem ev_e9 {a q1 ρ} : ev tab G (.not a q1) ρ = ((boolOf (ev tab G a ρ)).map fun b => .bool (!b)) := rfl
theorem ev_e10 {i q1 q2 ρ} : ev tab G (.notL i q1 q2) ρ = (match ρ i with
    | some (.list xs) => if xs.length ≤ lim then some (.bool xs.isEmpty) else none
    | _ => none) := rfl
theorem ev_e11 {o a b q1 ρ} : ev tab G (.cmp o a b q1) ρ = ((ev tab G a ρ).bind fun x => (ev tab G b ρ).bind fun y => cmpD o x y) := rfl
theorem ev_e12 {a b q1 ρ} : ev tab G (.and2 a b q1) ρ = ((boolOf (ev tab G a ρ)).bind fun x => if x then ev tab G b ρ else some (.bool false)) := rfl
theorem ev_e13 {a b c q1 ρ} : ev tab G (.and3 a b c q1) ρ = ((boolOf (ev tab G a ρ)).bind fun x => if x then (boolOf (ev tab G b ρ)).bind fun y => if y then ev tab G c ρ else some (.bool false) else some (.bool false)) := rfl
theorem ev_e14 {a b q1 ρ} : ev tab G (.or2 a b q1) ρ = ((boolOf (ev tab G a ρ)).bind fun x => if x then some (.bool true) else ev tab G b ρ) := rfl
theorem ev_e15 {i j q1 q2 q3 q4 q5 q6 q7 ρ} : ev tab G (.isOrEq i j q1 q2 q3 q4 q5 q6 q7) ρ = ((ρ i).bind fun x => (ρ j).bind fun y => if isKind x y then (eqD x y).map .bool else none) := rfl
theorem ev_e16 {t a b q1 ρ} : ev tab G (.ite t a b q1) ρ = ((boolOf (ev tab G t ρ)).bind fun x => if x then ev tab G a ρ else ev tab G b ρ) := rfl
theorem ev_e17 {a i q1 ρ} : ev tab G (.item a i q1) ρ = ((ev tab G a ρ).bind fun x => (ev tab G i ρ).bind fun y => itemD x y) := rfl
theorem ev_e18 {a lo hi st q1 q2 ρ} : ev tab G (.slice a lo hi st q1 q2) ρ = ((ev tab G a ρ).bind fun x => (ev tab G lo ρ).bind fun l => (ev tab G hi ρ).bind fun h => (ev tab G st ρ).bind fun t => sliceD x l h t) := rfl
theorem ev_e19 {q1} : ev tab G .nothing q1 = (some .none) := rfl
theorem ev_e20 {f args q1 q2 ρ} : ev tab G (.call f args q1 q2) ρ = ((evs tab G args ρ).bind fun ds => G f ds) := rfl
theorem ev_e21 {a q1 q2 ρ} : ev tab G (.sum a q1 q2) ρ = ((ev tab G a ρ).bind sumD) := rfl
theorem ev_e22 {a q1 q2 ρ} : ev tab G (.len a q1 q2) ρ = ((ev tab G a ρ).bind lenD) := rfl
theorem ev_e23 {a b q1 q2 ρ} : ev tab G (.min2 a b q1 q2) ρ = ((ev tab G a ρ).bind fun x => (ev tab G b ρ).bind fun y => minD x y) := rfl
theorem ev_e24 {a q1 q2 ρ} : ev tab G (.max1 a q1 q2) ρ = ((ev tab G a ρ).bind maxD) := rfl
theorem ev_e25 {a b q1 q2 ρ} : ev tab G (.join a b q1 q2) ρ = ((ev tab G a ρ).bind fun x => (ev tab G b ρ).bind fun y => joinD x y) := rfl
theorem ev_e26 {a b q1 q2 ρ} : ev tab G (.index a b q1 q2) ρ = ((ev tab G a ρ).bind fun x => (ev tab G b ρ).bind fun y => indexD x y) := rfl
theorem ev_e27 {elt sc q1 ρ} : ev tab G (.comp elt .done sc q1) ρ = (none) := rfl
theorem ev_e28 {elt t it ifs r sc q1 ρ} : ev tab G (.comp elt (.gen t it ifs r) sc q1) ρ = ((evIt tab G it ρ).bind fun ds => (collectM (fun d => (bindT t d (keepFree tab sc ρ)).bind fun ρ' => (evIfs tab G ifs ρ').bind fun ok => if ok then evGs tab G r (ev tab G elt) ρ' else some []) ds).bind mkList) := rfl
theorem evs_e1 {q1} : evs tab G .nil q1 = (some []) := rfl
theorem evs_e2 {c r ρ} : evs tab G (.cons c r) ρ = ((ev tab G c ρ).bind fun x => (evs tab G r ρ).map (x :: ·)) := rfl
theorem evIfs_e1 {q1} : evIfs tab G .nil q1 = (some true) := rfl
theorem evIfs_e2 {c r ρ} : evIfs tab G (.cons c r) ρ = ((boolOf (ev tab G c ρ)).bind fun x => if x then evIfs tab G r ρ else some false) := rfl
theorem evGs_e1 {elt ρ} : evGs tab G .done elt ρ = ((elt ρ).map fun x => [x]) := rfl
theorem evGs_e2 {t it ifs r elt ρ} : evGs tab G (.gen t it ifs r) elt ρ = ((evIt tab G it ρ).bind fun ds => collectM (fun d => (bindT t d ρ).bind fun ρ' => (evIfs tab G ifs ρ').bind fun ok => if ok then evGs tab G r elt ρ' else some []) ds) := rfl
theorem evIt_e1 {a q1 q2 ρ} : evIt tab G (.range1 a q1 q2) ρ = ((ev tab G a ρ).bind range1D) := rfl
theorem evIt_e2 {a b q1 q2 ρ} : evIt tab G (.range2 a b q1 q2) ρ = ((ev tab G a ρ).bind fun x => (ev tab G b ρ).bind fun y => range2D x y) := rfl
theorem evIt_e3 {a q1 q2 ρ} : evIt tab G (.enum a q1 q2) ρ = ((ev tab G a ρ).bind enumD) := rfl
theorem evIt_e4 {a ρ} : evIt tab G (.of a) ρ = ((ev tab G a ρ).bind itemsD) := rfl
theorem exS_e1 {x e q1 q2 σ} : exS tab G (.assign x e q1 q2) σ = ((evK (ev tab G e) σ).map fun d => (upd σ x (false, d), .next)) := rfl
theorem exS_e2 {x es q1 q2 q3 σ} : exS tab G (.own x es q1 q2 q3) σ = ((evs tab G es σ.frozen).bind fun ds => if ds.length ≤ lim then some (upd σ x (true, .list ds), .next) else none) := rfl
theorem exS_e3 {x i e q1 q2 q3 σ} : exS tab G (.setitem x i e q1 q2 q3) σ = ((evK (ev tab G e) σ).bind fun d => match σ x with
    | some (true, .list ds) => (ev tab G i σ.frozen).bind fun k => k.num.bind fun k => if 0 ≤ k ∧ k < ds.length ∧ ds.length ≤ lim then some (upd σ x (true, .list (ds.set k.toNat d)), .next) else none
    | _ => none) := rfl
theorem exS_e4 {x e q1 q2 q3 σ} : exS tab G (.append x e q1 q2 q3) σ = ((evK (ev tab G e) σ).bind fun d => match σ x with
    | some (true, .list ds) => if ds.length ≤ lim then some (upd σ x (true, .list (ds ++ [d])), .next) else none
    | _ => none) := rfl
theorem exS_e5 {x e q1 q2 q3 σ} : exS tab G (.extend x e q1 q2 q3) σ = ((ev tab G e σ.frozen).bind fun d => match d with
    | .list es => match σ x with
      | some (true, .list ds) => if ds.length + es.length ≤ lim then some (upd σ x (true, .list (ds ++ es)), .next) else none
      | _ => none
    | _ => none) := rfl
theorem exS_e6 {x e q1 q2 σ} : exS tab G (.aug x e q1 q2) σ = (match σ x with
    | some (false, d₀) => d₀.num.bind fun a => (ev tab G e σ.frozen).bind fun d => d.num.map fun b => (upd σ x (false, .int (a + b)), .next)
    | _ => none) := rfl
theorem exS_e7 {t a b q1 σ} : exS tab G (.ite t a b q1) σ = ((boolOf (ev tab G t σ.full)).bind fun c => if c then exs tab G a σ else exs tab G b σ) := rfl
theorem exS_e8 {t it body q1 σ} : exS tab G (.for t it body q1) σ = ((iterS tab G it σ).bind fun p => loopM (fun d σ' => (bindS t d σ').bind fun σ'' => exs tab G body σ'') p.1 p.2) := rfl
theorem exS_e9 {e q1 σ} : exS tab G (.ret e q1) σ = ((ev tab G e σ.full).map fun d => (σ, .ret d)) := rfl
theorem exS_e10 {q1 σ} : exS tab G (.brk q1) σ = (some (σ, .brk)) := rfl
theorem exS_e11 {x e q1 q2 q3 q4 σ} : exS tab G (.copy x e q1 q2 q3 q4) σ = ((ev tab G e σ.frozen).bind fun d => match d with
    | .list es => if es.length ≤ lim then some (upd σ x (true, .list es), .next) else none
    | _ => none) := rfl
theorem exS_e12 {x elt t it ifs r sc pc q1 q2 σ} : exS tab G (.ownComp x elt t it ifs r sc pc q1 q2) σ = ((ev tab G (.comp elt (.gen t it ifs r) sc pc) σ.frozen).bind fun d => match d with
    | .list es => some (upd σ x (true, .list es), .next)
    | _ => none) := rfl
theorem exS_e13 {t y e q1 pY q2 q3 q4 q5 q6 q7 q8 q9 q10 q11 σ} : exS tab G (.tryRemove t y e q1 pY q2 q3 q4 q5 q6 q7 q8 q9 q10 q11) σ = ((evIt tab G (.of (.var y pY)) σ.frozen).bind fun ds => loopM (fun d σ' => (bindS (.one e pY) d σ').bind fun σ'' => remStep t e σ'') ds σ) := rfl
theorem exs_e1 {σ} : exs tab G .nil σ = (some (σ, .next)) := rfl
theorem exs_e2 {s r σ} : exs tab G (.cons s r) σ = (match exS tab G s σ with
    | some (σ', .next) => exs tab G r σ'
    | x => x) := rfl
end
noncomputable def argGo : List Nat → List D → St → St
  | i :: ps, d :: ds, σ => argGo ps ds (upd σ i (false, d))
  | _, _, σ => σ
noncomputable def argSt (ps : List Nat) (ds : List D) : St := argGo ps ds fun _ => none
/-- a def's answer -/
noncomputable def evDef (ps : List Nat) (body : Ss) (ds : List D) : Option D :=
  if ps.length = ds.length then match exs tab G body (argSt ps ds) with
    | some (_, .ret d) => some d
    | _ => none
  else none
end

end Mine
end

section
namespace Mine
open PySem PySem.W PyProof.Rows

/-! what stays -/
/-- the frames that are open -/
noncomputable def FS (A : Around) (b : Addr) : Prop := ∃ fr env, A.frames = some fr ∧ env ∈ fr ∧ env.frame = some b

noncomputable def Same (o o' : Obj) : Prop := o'.cls = o.cls ∧ o'.dict = o.dict ∧ o'.data = o.data
theorem Same.refl (o : Obj) : Same o o := ⟨rfl, rfl, rfl⟩
theorem Same.trans {a b c : Obj} (x : Same a b) (y : Same b c) : Same a c := ⟨y.1.trans x.1, y.2.1.trans x.2.1, y.2.2.trans x.2.2⟩

/-- everything stays as it was but what W names; a frame's slots may turn -/
noncomputable def KeepX (A : Around) (W : Addr → Prop) (h h' : Heap) : Prop :=
  ∀ b o, ¬ W b → h.get? b = some o → ∃ o', h'.get? b = some o' ∧ (¬ FS A b → o' = o) ∧ Same o o'
noncomputable def NoW : Addr → Prop := fun _ => False
noncomputable abbrev Keep (A : Around) (h h' : Heap) : Prop := KeepX A NoW h h'

theorem KeepX.of_all {A : Around} {W : Addr → Prop} {h h' : Heap} (k : ∀ b o, h.get? b = some o → h'.get? b = some o) : KeepX A W h h' :=
  fun b o _ e => ⟨o, k b o e, fun _ => rfl, .refl o⟩
theorem KeepX.of_but {A : Around} {W : Addr → Prop} {h h' : Heap} (k : ∀ b o, ¬ W b → h.get? b = some o → h'.get? b = some o) : KeepX A W h h' :=
  fun b o n e => ⟨o, k b o n e, fun _ => rfl, .refl o⟩
theorem KeepX.refl {A : Around} {W : Addr → Prop} {h : Heap} : KeepX A W h h := .of_all fun _ _ e => e
theorem KeepX.trans' {A : Around} {W W' : Addr → Prop} {h₁ h₂ h₃ : Heap} (x : KeepX A W h₁ h₂) (y : KeepX A W' h₂ h₃) (hw : ∀ b o, ¬ W b → h₁.get? b = some o → ¬ W' b) : KeepX A W h₁ h₃ := fun b o n e => by
  obtain ⟨o', e', q, sm⟩ := x b o n e
  obtain ⟨o'', e'', q', sm'⟩ := y b o' (hw b o n e) e'
  exact ⟨o'', e'', fun hf => (q' hf).trans (q hf), sm.trans sm'⟩
theorem KeepX.trans {A : Around} {W : Addr → Prop} {h₁ h₂ h₃ : Heap} (x : KeepX A W h₁ h₂) (y : KeepX A W h₂ h₃) : KeepX A W h₁ h₃ := x.trans' y fun _ _ n _ => n
theorem KeepX.weaken {A : Around} {W W' : Addr → Prop} {h h' : Heap} (x : KeepX A W h h') (hw : ∀ b o, h.get? b = some o → W b → W' b) : KeepX A W' h h' :=
  fun b o n e => x b o (fun q => n (hw b o e q)) e
theorem KeepX.of_keep {A : Around} {W : Addr → Prop} {h h' : Heap} (x : Keep A h h') : KeepX A W h h' := x.weaken fun _ _ _ q => q.elim
theorem KeepX.data {A : Around} {W : Addr → Prop} {h h' : Heap} (x : KeepX A W h h') {b : Addr} {o : Obj} (n : ¬ W b) (e : h.get? b = some o) : ∃ o', h'.get? b = some o' ∧ o'.cls = o.cls ∧ o'.data = o.data :=
  let ⟨o', e', _, sm⟩ := x b o n e; ⟨o', e', sm.1, sm.2.2⟩

section
variable {A : Around} {W : Addr → Prop} {h h' : Heap}
theorem Heap.Ns.keepX {a : Addr} {m : Str → Option Value} (x : h.Ns a m) (k : KeepX A W h h') (n : ¬ W a) : h'.Ns a m := by
  obtain ⟨o, es, ep, ho, hd, r⟩ := x
  obtain ⟨o', ho', _, hd'⟩ := k.data n ho
  exact ⟨o', es, ep, ho', hd'.trans hd, r⟩
theorem Heap.IsCell.keepX {a : Addr} {v : Option Value} (x : h.IsCell a v) (k : KeepX A W h h') (n : ¬ W a) : h'.IsCell a v := by
  obtain ⟨o, ho, hd⟩ := x
  obtain ⟨o', ho', _, hd'⟩ := k.data n ho
  exact ⟨o', ho', hd'.trans hd⟩
theorem Heap.IsList.keepX {a : Addr} {v : Array Value} (x : h.IsList a v) (k : KeepX A W h h') (n : ¬ W a) : h'.IsList a v := by
  obtain ⟨o, ho, hc, m, hd⟩ := x
  obtain ⟨o', ho', hc', hd'⟩ := k.data n ho
  exact ⟨o', ho', hc'.trans hc, m, hd'.trans hd⟩
theorem Heap.NoLimit.keepX (x : h.NoLimit) (k : Keep A h h') : h'.NoLimit := let ⟨mc, a, b⟩ := x; ⟨mc, Heap.Ns.keepX a k (fun q => q), b⟩
end

/-! reading -/
/-- which token stands for which content -/
noncomputable abbrev TokMap := Tok → Option (Int ⊕ Str)
structure Wd (f : TokMap) (n : Nat) : Prop where
  pos : 0 < n
  lt : ∀ t x, f t = some x → t < n
noncomputable def Ext (f f' : TokMap) : Prop := ∀ t x, f t = some x → f' t = some x
theorem Ext.refl (f : TokMap) : Ext f f := fun _ _ e => e
theorem Ext.trans {f g k : TokMap} (x : Ext f g) (y : Ext g k) : Ext f k := fun t c e => y t c (x t c e)
theorem Wd.mono {f : TokMap} {n m : Nat} (x : Wd f n) (h : n ≤ m) : Wd f m := ⟨Nat.lt_of_lt_of_le x.pos h, fun t c e => Nat.lt_of_lt_of_le (x.lt t c e) h⟩
noncomputable def putTok (f : TokMap) (t : Tok) (c : Int ⊕ Str) : TokMap := fun u => if u = t then some c else f u
theorem putTok_ext {f : TokMap} {n t : Nat} {c : Int ⊕ Str} (x : Wd f n) (h : n ≤ t) : Ext f (putTok f t c) := fun u y e => by
  unfold putTok
  rw [if_neg (Nat.ne_of_lt (Nat.lt_of_lt_of_le (x.lt u y e) h))]; exact e
theorem putTok_wd {f : TokMap} {n t m : Nat} {c : Int ⊕ Str} (x : Wd f n) (h : n ≤ t) (hm : t < m) : Wd (putTok f t c) m :=
  ⟨Nat.lt_of_le_of_lt (Nat.zero_le _) hm, fun u y e => by
    unfold putTok at e
    by_cases q : u = t
    · rw [q]; exact hm
    · rw [if_neg q] at e; exact Nat.lt_of_lt_of_le (x.lt u y e) (Nat.le_trans h (Nat.le_of_lt hm))⟩
theorem putTok_self (f : TokMap) (t : Tok) (c : Int ⊕ Str) : putTok f t c t = some c := by simp [putTok]

mutual
/-- the value reads as the datum; none of its lists is one that Av names -/
noncomputable def Rd (f : TokMap) (Av : Addr → Prop) (h : Heap) : Value → D → Prop
  | v, .none => v = .none
  | v, .bool b => v = .bool b
  | v, .int i => ∃ t, v = .int i t ∧ t ≠ 0 ∧ f t = some (.inl i)
  | v, .raw i => ∃ t, v = .int i t
  | v, .str x => ∃ t, v = .str x t ∧ t ≠ 0 ∧ f t = some (.inr x) ∧ PyData.strOk x = true
  | v, .list ds => ∃ a its, v = .ref a ∧ ¬ Av a ∧ h.IsList a its ∧ RdAll f Av h its.toList ds
  | v, .tuple ds => ∃ a its, v = .ref a ∧ IsTup h a its ∧ RdAll f Av h its.toList ds
noncomputable def RdAll (f : TokMap) (Av : Addr → Prop) (h : Heap) : List Value → List D → Prop
  | vs, [] => vs = []
  | vs, d :: ds => ∃ v ws, vs = v :: ws ∧ Rd f Av h v d ∧ RdAll f Av h ws ds
end

/-- what W names is no tuple, and no list but those that Av names -/
noncomputable def Clear (W Av : Addr → Prop) (h : Heap) : Prop := ∀ b o xs n, W b → h.get? b = some o → o.data = .seq xs n → o.cls = .type "list" ∧ Av b
theorem clear_noW {Av : Addr → Prop} {h : Heap} : Clear NoW Av h := fun _ _ _ _ q => q.elim

theorem isTup_keepX {A : Around} {W Av : Addr → Prop} {h h' : Heap} {a : Addr} {its : Array Value} (k : KeepX A W h h') (cl : Clear W Av h) (x : IsTup h a its) : IsTup h' a its := by
  obtain ⟨o, ho, hc, m, hd⟩ := x
  obtain ⟨o', ho', hc', hd'⟩ := k.data (fun q => by have := (cl _ _ _ _ q ho hd).1; rw [hc] at this; exact absurd this (by simp)) ho
  exact ⟨o', ho', hc'.trans hc, m, hd'.trans hd⟩
theorem isList_keepC {A : Around} {W Av : Addr → Prop} {h h' : Heap} {a : Addr} {its : Array Value} (k : KeepX A W h h') (cl : Clear W Av h) (n : ¬ Av a) (x : h.IsList a its) : h'.IsList a its := by
  refine Heap.IsList.keepX x k fun q => ?_
  obtain ⟨o, ho, hc, m, hd⟩ := x
  exact n (cl _ _ _ _ q ho hd).2

mutual
theorem Rd.keepX {A : Around} {f f' : TokMap} {W Av : Addr → Prop} {h h' : Heap} (k : KeepX A W h h') (cl : Clear W Av h) (e : Ext f f') : ∀ (d : D) {v : Value}, Rd f Av h v d → Rd f' Av h' v d
  | .none, _, r => r
  | .bool _, _, r => r
  | .int _, _, ⟨t, a, b, c⟩ => ⟨t, a, b, e _ _ c⟩
  | .raw _, _, r => r
  | .str _, _, ⟨t, a, b, c, q⟩ => ⟨t, a, b, e _ _ c, q⟩
  | .list ds, _, ⟨a, its, p, n, l, r⟩ => ⟨a, its, p, n, isList_keepC k cl n l, RdAll.keepX k cl e ds r⟩
  | .tuple ds, _, ⟨a, its, p, l, r⟩ => ⟨a, its, p, isTup_keepX k cl l, RdAll.keepX k cl e ds r⟩
theorem RdAll.keepX {A : Around} {f f' : TokMap} {W Av : Addr → Prop} {h h' : Heap} (k : KeepX A W h h') (cl : Clear W Av h) (e : Ext f f') : ∀ (ds : List D) {vs : List Value}, RdAll f Av h vs ds → RdAll f' Av h' vs ds
  | [], _, r => r
  | d :: ds, _, ⟨v, ws, p, r, q⟩ => ⟨v, ws, p, Rd.keepX k cl e d r, RdAll.keepX k cl e ds q⟩
end
mutual
theorem Rd.weaken {f : TokMap} {Av Av' : Addr → Prop} {h : Heap} (q : ∀ a, Av' a → Av a) : ∀ (d : D) {v : Value}, Rd f Av h v d → Rd f Av' h v d
  | .none, _, r => r
  | .bool _, _, r => r
  | .int _, _, r => r
  | .raw _, _, r => r
  | .str _, _, r => r
  | .list ds, _, ⟨a, its, p, n, l, r⟩ => ⟨a, its, p, fun y => n (q a y), l, RdAll.weaken q ds r⟩
  | .tuple ds, _, ⟨a, its, p, l, r⟩ => ⟨a, its, p, l, RdAll.weaken q ds r⟩
theorem RdAll.weaken {f : TokMap} {Av Av' : Addr → Prop} {h : Heap} (q : ∀ a, Av' a → Av a) : ∀ (ds : List D) {vs : List Value}, RdAll f Av h vs ds → RdAll f Av' h vs ds
  | [], _, r => r
  | d :: ds, _, ⟨v, ws, p, r, z⟩ => ⟨v, ws, p, Rd.weaken q d r, RdAll.weaken q ds z⟩
end
mutual
theorem Rd.reads {f : TokMap} {Av : Addr → Prop} {h : Heap} : ∀ (d : D) {v : Value}, Rd f Av h v d → (toP d).canLay0 = true ∧ ∃ as, Reads h v (toP d) as
  | .none, _, r => by cases r; exact ⟨rfl, _, .none⟩
  | .bool _, _, r => by cases r; exact ⟨rfl, _, .bool _⟩
  | .int _, _, ⟨t, a, _, _⟩ => by cases a; exact ⟨rfl, _, .int _ _⟩
  | .raw _, _, ⟨t, a⟩ => by cases a; exact ⟨rfl, _, .int _ _⟩
  | .str _, _, ⟨t, a, _, _, q⟩ => by cases a; exact ⟨by simpa [toP, PyData.canLay0] using q, _, .str _ _⟩
  | .list ds, _, ⟨a, its, p, n, ⟨o, h1, h2, _, h3⟩, r⟩ => by
    obtain ⟨c, as, q⟩ := RdAll.reads ds r
    cases p
    exact ⟨by simpa [toP, PyData.canLay0] using c, _, .list h1 h2 h3 q⟩
  | .tuple ds, _, ⟨a, its, p, ⟨o, h1, h2, _, h3⟩, r⟩ => by
    obtain ⟨c, as, q⟩ := RdAll.reads ds r
    cases p
    exact ⟨by simpa [toP, PyData.canLay0] using c, _, .tuple h1 h2 h3 q⟩
theorem RdAll.reads {f : TokMap} {Av : Addr → Prop} {h : Heap} : ∀ (ds : List D) {vs : List Value}, RdAll f Av h vs ds → PyData.canLayAll0 (toPs ds) = true ∧ ∃ as, ReadsAll h vs (toPs ds) as
  | [], _, r => by cases r; exact ⟨by simp [toPs, PyData.canLayAll0], _, .nil⟩
  | d :: ds, _, ⟨v, ws, p, r, q⟩ => by
    obtain ⟨c, as, x⟩ := Rd.reads d r
    obtain ⟨c', bs, y⟩ := RdAll.reads ds q
    cases p
    exact ⟨by simp [toPs, PyData.canLayAll0, c, c'], _, .cons x y⟩
end

section
variable {A : Around} {f f' : TokMap} {W Av Av' : Addr → Prop} {h h' : Heap} {v : Value} {d : D} {vs ws : List Value} {ds es : List D}
theorem Rd.keep (r : Rd f Av h v d) (k : Keep A h h') (e : Ext f f') : Rd f' Av h' v d := Rd.keepX k clear_noW e d r
theorem RdAll.keep (r : RdAll f Av h vs ds) (k : Keep A h h') (e : Ext f f') : RdAll f' Av h' vs ds := RdAll.keepX k clear_noW e ds r
theorem Rd.num (r : Rd f Av h v d) {i : Int} (e : d.num = some i) : ∃ t, v = .int i t := by
  cases d <;> simp [D.num] at e
  · obtain ⟨t, a, _, _⟩ := r; subst e; exact ⟨t, a⟩
  · obtain ⟨t, a⟩ := r; subst e; exact ⟨t, a⟩
theorem RdAll.nil : RdAll f Av h [] [] := rfl
theorem RdAll.cons (r : Rd f Av h v d) (q : RdAll f Av h vs ds) : RdAll f Av h (v :: vs) (d :: ds) := ⟨v, vs, rfl, r, q⟩
theorem RdAll.length : ∀ {ds : List D} {vs : List Value}, RdAll f Av h vs ds → vs.length = ds.length
  | [], _, r => by cases r; rfl
  | d :: ds, _, ⟨v, ws, p, _, q⟩ => by subst p; simp [RdAll.length q]
theorem RdAll.append (r : RdAll f Av h ws es) : ∀ {ds : List D} {vs : List Value}, RdAll f Av h vs ds → RdAll f Av h (vs ++ ws) (ds ++ es)
  | [], _, q => by cases q; exact r
  | d :: ds, _, ⟨v, ws', p, q1, q2⟩ => by subst p; exact .cons q1 (RdAll.append r q2)
theorem RdAll.one (r : Rd f Av h v d) : RdAll f Av h [v] [d] := .cons r .nil
theorem RdAll.get : ∀ {ds : List D} {vs : List Value}, RdAll f Av h vs ds → ∀ {i : Nat} {d : D}, ds[i]? = some d → ∃ v, vs[i]? = some v ∧ Rd f Av h v d
  | d :: ds, _, ⟨v, ws, p, q1, q2⟩, i, e, he => by
    subst p
    cases i with
    | zero => cases he; exact ⟨v, rfl, q1⟩
    | succ i => exact RdAll.get q2 (by simpa using he)
  | [], _, _, i, e, he => by simp at he
theorem RdAll.set : ∀ {ds : List D} {vs : List Value}, RdAll f Av h vs ds → Rd f Av h v d → ∀ i, RdAll f Av h (vs.set i v) (ds.set i d)
  | d' :: ds, _, ⟨v', ws, p, q1, q2⟩, r, i => by
    subst p
    cases i with
    | zero => exact .cons r q2
    | succ i => exact .cons q1 (RdAll.set q2 r i)
  | [], _, q, _, _ => by cases q; rfl
theorem Rd.scalar (r : Rd f Av h v d) (e : scalar d = true) : Rd f Av' h v d := by
  cases d <;> first | exact r | (simp [scalar] at e)
end

/-! the ground: what the top has left -/
structure BaseOk (h₁ : Heap) (mg mb : Str → Option Value) : Prop where
  g : h₁.Ns mainGlobals mg
  b : h₁.Ns builtinsNs mb
  lim : h₁.NoLimit
  nb : NoneBooked h₁
  bi : ∀ x : Str, x ≠ "__name__" → mb x = bootBuiltins x
  miss : ∀ x ∈ (["sum", "len", "min", "max", "range", "enumerate", "list", "ValueError"] : List Str), mg x = none

structure SI (h₁ : Heap) (A : Around) (h : Heap) : Prop where
  base : ∀ b o, h₁.get? b = some o → h.get? b = some o
  fr : ∃ fr, A.frames = some fr ∧ h.FunFrames h₁ fr

theorem funFrames_mem {h base : Heap} : ∀ {l : List Env}, h.FunFrames base l → ∀ env ∈ l, ∀ b, env.frame = some b → base.get? b = none ∧ ∃ o, h.get? b = some o ∧ ∀ vs, o.data ≠ .fields vs
  | [], _, env, hm, b, e => by cases hm
  | x :: l, h, env, hm, b, e => by
    obtain ⟨_, ⟨L, o, hf, hn, ho, hd⟩, hr⟩ := h
    rcases List.mem_cons.mp hm with q | q
    · subst q
      rw [hf] at e; cases e; exact ⟨hn, o, ho, hd⟩
    · exact funFrames_mem hr env q b e
theorem SI.notFS {h₁ : Heap} {A : Around} {h : Heap} (x : SI h₁ A h) {b : Addr} {o : Obj} (e : h₁.get? b = some o) : ¬ FS A b := by
  rintro ⟨fr, env, hf, hm, hb⟩
  obtain ⟨fr', hf', hF⟩ := x.fr
  rw [hf] at hf'; cases hf'
  rw [(funFrames_mem hF env hm b hb).1] at e; cases e

/-- what W names is new since the ground, and stays what it is in kind -/
theorem SI.keepX {h₁ : Heap} {A : Around} {W : Addr → Prop} {h h' : Heap} (x : SI h₁ A h) (k : KeepX A W h h') (hn : ∀ b o, W b → h₁.get? b = some o → False)
    (hw : ∀ b, W b → ∃ o', h'.get? b = some o' ∧ ∀ vs, o'.data ≠ .fields vs) : SI h₁ A h' := by
  obtain ⟨fr, hf, hF⟩ := x.fr
  refine ⟨fun b o e => ?_, fr, hf, ?_⟩
  · obtain ⟨o', e', q, _⟩ := k b o (fun q => hn b o q e) (x.base b o e)
    rw [q (x.notFS e)] at e'; exact e'
  · clear hf
    induction fr with
    | nil => trivial
    | cons env r ih =>
      obtain ⟨hk, ⟨L, o, hf, hn', ho, hd⟩, hr⟩ := hF
      refine ⟨hk, ?_, ih hr⟩
      by_cases q : W L
      · obtain ⟨o', e', d'⟩ := hw L q
        exact ⟨L, o', hf, hn', e', d'⟩
      · obtain ⟨o', e', _, d'⟩ := k.data q ho
        exact ⟨L, o', hf, hn', e', fun vs => by rw [d']; exact hd vs⟩
theorem SI.keep {h₁ : Heap} {A : Around} {h h' : Heap} (x : SI h₁ A h) (k : Keep A h h') : SI h₁ A h' := x.keepX k (fun _ _ q _ => q) fun _ q => q.elim

/-! names -/
noncomputable def VarAt (env : Env) (h : Heap) (x : Str) (v : Value) : Prop :=
  (env.kindOf x = some .local ∧ ∃ m, h.Ns env.locals m ∧ m x = some v) ∨
  ((env.kindOf x = some .cell ∨ env.kindOf x = some .free) ∧ ∃ c, env.cells.lookup x = some c ∧ h.IsCell c (some v))

structure EnvOk (env : Env) (kinds : List (Str × NameKind)) (h : Heap) : Prop where
  kind : env.scope.kind = .function
  names : env.scope.names = kinds
  globals : env.globals = mainGlobals
  builtins : env.builtins = builtinsNs
  ns : ∃ m, h.Ns env.locals m
  cells : ∀ n, env.kindOf n = some .cell ∨ env.kindOf n = some .free → ∃ c v, env.cells.lookup n = some c ∧ h.IsCell c v
  apart : env.cells.Pairwise fun x y => x.2 ≠ y.2

theorem VarAt.keep {A : Around} {env : Env} {h h' : Heap} {x : Str} {v : Value} (q : VarAt env h x v) (k : Keep A h h') : VarAt env h' x v :=
  q.imp (fun ⟨a, m, b, c⟩ => ⟨a, m, Heap.Ns.keepX b k (fun q => q), c⟩) fun ⟨a, c, b, d⟩ => ⟨a, c, b, Heap.IsCell.keepX d k (fun q => q)⟩
theorem EnvOk.keep {A : Around} {env : Env} {kinds : List (Str × NameKind)} {h h' : Heap} (q : EnvOk env kinds h) (k : Keep A h h') : EnvOk env kinds h' :=
  ⟨q.kind, q.names, q.globals, q.builtins, let ⟨m, a⟩ := q.ns; ⟨m, Heap.Ns.keepX a k (fun q => q)⟩, fun n e => let ⟨c, v, a, b⟩ := q.cells n e; ⟨c, v, a, Heap.IsCell.keepX b k (fun q => q)⟩, q.apart⟩

/-- the room of an activation -/
structure AOk (lvl : Nat) (A : Around) : Prop where
  handled : A.handled = none
  depth : A.depth + lvl ≤ 900
  units : A.units + 10 * lvl + 300 ≤ 9900

/-- all that an expression asks of the state -/
structure Cx (tab : Nat → Str) (h₁ : Heap) (A : Around) (env : Env) (kinds : List (Str × NameKind)) (ρ : Vw) (f : TokMap) (Av : Addr → Prop) (s : Shared) : Prop where
  si : SI h₁ A s.heap
  ok : EnvOk env kinds s.heap
  lo : h₁.get? env.locals = none
  ce : ∀ n c, env.cells.lookup n = some c → h₁.get? c = none
  av : ∀ a, Av a → ∃ o, s.heap.get? a = some o
  wd : Wd f s.toks
  rel : ∀ i d, ρ i = some d → ∃ v, VarAt env s.heap (tab i) v ∧ Rd f Av s.heap v d

/-- the heap and the tokens alone have turned, and all stands -/
noncomputable def KeepS (A : Around) (s s' : Shared) : Prop := ∃ h' tk, s' = { s with heap := h', toks := tk } ∧ Keep A s.heap h'
theorem KeepS.refl {A : Around} {s : Shared} : KeepS A s s := ⟨s.heap, s.toks, rfl, .refl⟩
theorem KeepS.trans {A : Around} {s₁ s₂ s₃ : Shared} (x : KeepS A s₁ s₂) (y : KeepS A s₂ s₃) : KeepS A s₁ s₃ := by
  obtain ⟨h, t, rfl, k⟩ := x
  obtain ⟨h', t', rfl, k'⟩ := y
  exact ⟨h', t', rfl, k.trans k'⟩
theorem KeepS.of {A : Around} {s : Shared} {h' : Heap} {tk : Nat} (k : ∀ b o, s.heap.get? b = some o → h'.get? b = some o) : KeepS A s { s with heap := h', toks := tk } := ⟨h', tk, rfl, .of_all k⟩
theorem KeepS.tok {A : Around} {s : Shared} {tk : Nat} : KeepS A s { s with toks := tk } := ⟨s.heap, tk, rfl, .refl⟩
theorem KeepS.keep {A : Around} {s s' : Shared} (x : KeepS A s s') : Keep A s.heap s'.heap := by obtain ⟨h, t, rfl, k⟩ := x; exact k

theorem Cx.keep {tab : Nat → Str} {h₁ : Heap} {A : Around} {env : Env} {kinds : List (Str × NameKind)} {ρ : Vw} {f f' : TokMap} {Av : Addr → Prop} {s s' : Shared} (x : Cx tab h₁ A env kinds ρ f Av s) (k : KeepS A s s') (e : Ext f f') (w : Wd f' s'.toks) : Cx tab h₁ A env kinds ρ f' Av s' :=
  ⟨x.si.keep k.keep, x.ok.keep k.keep, x.lo, x.ce, fun a q => let ⟨o, e⟩ := x.av a q; let ⟨o', e', _⟩ := k.keep a o (fun q => q) e; ⟨o', e'⟩, w, fun i d q => let ⟨v, a, b⟩ := x.rel i d q; ⟨v, a.keep k.keep, b.keep k.keep e⟩⟩

/-- the tree gives a value of the datum -/
noncomputable def Got (A : Around) (f : TokMap) (Av : Addr → Prop) (s : Shared) (d : D) (v : Value) (s' : Shared) : Prop := KeepS A s s' ∧ ∃ f', Ext f f' ∧ Wd f' s'.toks ∧ Rd f' Av s'.heap v d

section
variable {A : Around} {f : TokMap} {Av : Addr → Prop} {s s' : Shared} {d : D} {v : Value}
/-- a value that needs no token of its own -/
theorem Got.same (k : KeepS A s s') (w : Wd f s.toks) (t : s.toks ≤ s'.toks) (r : Rd f Av s'.heap v d) : Got A f Av s d v s' := ⟨k, f, .refl f, w.mono t, r⟩
theorem Got.bool {b : Bool} (k : KeepS A s s') (w : Wd f s.toks) (t : s.toks ≤ s'.toks) : Got A f Av s (.bool b) (.bool b) s' := .same k w t rfl
theorem Got.raw {i : Int} {u : Tok} (k : KeepS A s s') (w : Wd f s.toks) (t : s.toks ≤ s'.toks) : Got A f Av s (.raw i) (.int i u) s' := .same k w t ⟨u, rfl⟩
theorem Got.int {i : Int} {u : Tok} (k : KeepS A s s') (w : Wd f s.toks) (t : s.toks ≤ u) (t' : u < s'.toks) : Got A f Av s (.int i) (.int i u) s' :=
  ⟨k, putTok f u (.inl i), putTok_ext w t, putTok_wd w t t', u, rfl, Nat.ne_of_gt (Nat.lt_of_lt_of_le w.pos t), putTok_self ..⟩
theorem Got.str {x : Str} {u : Tok} (k : KeepS A s s') (w : Wd f s.toks) (t : s.toks ≤ u) (t' : u < s'.toks) (ok : PyData.strOk x = true) : Got A f Av s (.str x) (.str x u) s' :=
  ⟨k, putTok f u (.inr x), putTok_ext w t, putTok_wd w t t', u, rfl, Nat.ne_of_gt (Nat.lt_of_lt_of_le w.pos t), putTok_self .., ok⟩
theorem Got.trans {s₀ : Shared} {f₀ : TokMap} (k : KeepS A s₀ s) (e : Ext f₀ f) (g : Got A f Av s d v s') : Got A f₀ Av s₀ d v s' := let ⟨k', f', e', w, r⟩ := g; ⟨k.trans k', f', e.trans e', w, r⟩
end
end Mine
end

section
namespace Mine
open PySem PySem.W PyProof.Rows

theorem lim_le : lim ≤ sizeLine := by decide

theorem bitOr_pp {x y : Int} (hx : 0 ≤ x) (hy : 0 ≤ y) : Builtin.bitOr x y = ((x.toNat ||| y.toNat : Nat) : Int) := by
  have nx : ¬ 0 ≤ Builtin.bitNot x := by unfold Builtin.bitNot; omega
  have ny : ¬ 0 ≤ Builtin.bitNot y := by unfold Builtin.bitNot; omega
  have e : ∀ z : Int, Builtin.bitNot (Builtin.bitNot z) = z := fun z => by unfold Builtin.bitNot; omega
  show Builtin.bitNot (Builtin.bitAnd (Builtin.bitNot x) (Builtin.bitNot y)) = _
  rw [bitAnd_nn nx ny, e, e, e]

section
variable {prog : Program} {w : World} {A : Around} {E : Value → Shared → Prop} {f : TokMap} {Av : Addr → Prop} {s : Shared} {a b : Value} {da db d : D}

theorem new_not (av : ∀ a, Av a → ∃ o, s.heap.get? a = some o) : ¬ Av s.heap.objs.size := fun q => by
  obtain ⟨o, e⟩ := av _ q
  exact absurd (Heap.lt_size e) (Nat.lt_irrefl _)
theorem keep_push (o : Obj) : KeepS A s { s with heap := s.heap.push o } := ⟨_, s.toks, rfl, .of_all fun _ _ e => Heap.get?_push_of_some _ e⟩
theorem keep_pushT (o : Obj) (tk : Nat) : KeepS A s { s with heap := s.heap.push o, toks := tk } := ⟨_, tk, rfl, .of_all fun _ _ e => Heap.get?_push_of_some _ e⟩
theorem isList_push (h : Heap) (vs : Array Value) : (h.push { cls := .type "list", data := .seq vs }).IsList h.objs.size vs := ⟨_, Heap.get?_push_size _ rfl, rfl, 0, rfl⟩
/-- a new list -/
theorem got_newList {vs : List Value} {ds : List D} (hw : Wd f s.toks) (av : ∀ a, Av a → ∃ o, s.heap.get? a = some o) (r : RdAll f Av s.heap vs ds) :
    Got A f Av s (.list ds) (.ref s.heap.objs.size) { s with heap := s.heap.push { cls := .type "list", data := .seq vs.toArray } } :=
  .same (keep_push _) hw (Nat.le_refl _) ⟨_, vs.toArray, rfl, new_not av, isList_push _ _, r.keep (keep_push (A := A) _).keep (.refl f)⟩

theorem int_sound {t u : Tok} {x y z : Int} {o : BO} (h : binI o x y = some z) (hw : Wd f s.toks) : wpAny (model prog w) A (binaryOp o.op (.int x t) (.int y u)) (Got A f Av s (.int z)) E s := by
  have fin : ∀ z', z' = z → Got A f Av s (.int z) (.int z' s.toks) { s with toks := s.toks + 1 } := fun z' e => by subst e; exact .int .tok hw (Nat.le_refl _) (Nat.lt_succ_self _)
  cases o <;> simp only [binI] at h
  · exact add_int (fin _ (by simpa using h))
  · exact sub_int (fin _ (by simpa using h))
  · split at h
    · rename_i hb
      refine mod_int' (by omega) (fin _ ?_)
      rw [Int.fmod_eq_emod_of_nonneg _ (by omega)]; simpa using h
    · cases h
  · split at h
    · rename_i hb
      refine floordiv_int (by omega) (fin _ ?_) (.inl (PyProof.noPylong_small (by omega)))
      rw [Int.fdiv_eq_ediv_of_nonneg _ (by omega)]; simpa using h
    · cases h
  · split at h
    · rename_i hb
      refine lshift_int_small (by omega) (by omega) (by omega) (fin _ (by simpa using h))
    · cases h
  · split at h
    · rename_i hb
      refine rshift_int hb (fin _ ?_)
      rw [Int.fdiv_eq_ediv_of_nonneg _ (Int.le_of_lt (Int.pow_pos (by decide)))]; simpa using h
    · cases h
  · split at h
    · rename_i hb
      refine and_int (fin _ ?_)
      rw [bitAnd_pp hb.1 hb.2]; simpa using h
    · cases h
  · split at h
    · rename_i hb
      refine or_int (fin _ ?_)
      rw [bitOr_pp hb.1 hb.2]; simpa using h
    · cases h
  · split at h
    · rename_i hb
      refine pow_int_small (by omega) (by omega) (by omega) (fin _ (by simpa using h))
    · cases h

theorem numsD_inv {g : Int → Int → Option D} (h : numsD g da db = some d) : ∃ x y, da.num = some x ∧ db.num = some y ∧ g x y = some d := by
  unfold numsD at h
  split at h
  · split at h
    · exact ⟨_, _, by assumption, by assumption, h⟩
    · cases h
  · cases h

theorem strOk_append {x y : Str} (hx : PyData.strOk x = true) (hy : PyData.strOk y = true) : PyData.strOk (x ++ y) = true := by
  unfold PyData.strOk at *
  show (Array.all (x.cps ++ y.cps) _) = true
  rw [Array.all_append, hx, hy]; rfl

theorem add_list_sound {l k : Addr} {xs ys : Array Value} {ds es : List D} (hw : Wd f s.toks) (av : ∀ a, Av a → ∃ o, s.heap.get? a = some o)
    (hl : s.heap.IsList l xs) (hk : s.heap.IsList k ys) (r : RdAll f Av s.heap xs.toList ds) (q : RdAll f Av s.heap ys.toList es) (hsz : (ds ++ es).length ≤ lim) :
    wpAny (model prog w) A (binaryOp .Add (.ref l) (.ref k)) (Got A f Av s (.list (ds ++ es))) E s := by
  obtain ⟨⟨cls, dd, data, sl⟩, ho, hc, n, hd⟩ := id hl
  obtain ⟨⟨cls2, dd2, data2, sl2⟩, ho2, hc2, n2, hd2⟩ := id hk
  simp only at hc hd hc2 hd2
  subst hc hd hc2 hd2
  have l1 := r.length
  have l2 := q.length
  rw [Array.length_toList] at l1 l2
  rw [List.length_append] at hsz
  have e : xs ++ ys = (xs.toList ++ ys.toList).toArray := by simp
  refine concat_meets ⟨_, ho, rfl⟩ ⟨_, ho2, rfl⟩ noFill_list_add seq_list_add PySem.F.slot_list_add PySem.F.entry_list_add (PySem.F.args_list_add_2 _ _) (list_addW l k xs ys n n2 dd dd2 sl sl2 (by have := lim_le; omega)) ⟨ho, ho2, ?_⟩
  rw [e]
  exact got_newList hw av (RdAll.append q r)

theorem add_str_sound {x y : Str} (hw : Wd f s.toks) (ra : Rd f Av s.heap a (.str x)) (rb : Rd f Av s.heap b (.str y)) (hsz : x.length + y.length ≤ lim) :
    wpAny (model prog w) A (binaryOp .Add a b) (Got A f Av s (.str (x ++ y))) E s := by
  obtain ⟨t, rfl, t0, tf, okx⟩ := ra
  obtain ⟨u, rfl, u0, uf, oky⟩ := rb
  refine P.add_str ?_
  split
  · rename_i h
    have : x = ⟨#[]⟩ := by
      have h' : x.cps.size = 0 := by simpa [Str.length] using h
      obtain ⟨cps⟩ := x
      simpa using h'
    subst this
    have e : ((⟨#[]⟩ : Str) ++ y) = y := by show (⟨#[] ++ y.cps⟩ : Str) = y; simp
    rw [e]; exact .same .refl hw (Nat.le_refl _) ⟨u, rfl, u0, uf, oky⟩
  · split
    · rename_i h
      have : y = ⟨#[]⟩ := by
        have h' : y.cps.size = 0 := by simpa [Str.length] using h
        obtain ⟨cps⟩ := y
        simpa using h'
      subst this
      have e : (x ++ (⟨#[]⟩ : Str)) = x := by show (⟨x.cps ++ #[]⟩ : Str) = x; simp
      rw [e]; exact .same .refl hw (Nat.le_refl _) ⟨t, rfl, t0, tf, okx⟩
    · refine ⟨?_, .str .tok hw (Nat.le_refl _) (Nat.lt_succ_self _) (strOk_append okx oky)⟩
      have : (x ++ y).length = x.length + y.length := by show (x.cps ++ y.cps).size = _; rw [Array.size_append]; rfl
      rw [this]; exact Nat.le_trans hsz lim_le

theorem mkList_inv {ds : List D} (h : mkList ds = some d) : ds.length ≤ lim ∧ d = .list ds := by
  unfold mkList at h
  split at h
  · cases h; exact ⟨by assumption, rfl⟩
  · cases h

theorem bin_sound {o : BO} (h : binD o da db = some d) (hw : Wd f s.toks) (av : ∀ a, Av a → ∃ o, s.heap.get? a = some o) (ra : Rd f Av s.heap a da) (rb : Rd f Av s.heap b db) :
    wpAny (model prog w) A (binaryOp o.op a b) (Got A f Av s d) E s := by
  have nums : ∀ {o : BO}, numsD (fun x y => (binI o x y).map .int) da db = some d → wpAny (model prog w) A (binaryOp o.op a b) (Got A f Av s d) E s := by
    intro o h
    obtain ⟨x, y, hx, hy, hz⟩ := numsD_inv h
    obtain ⟨t, rfl⟩ := ra.num hx
    obtain ⟨u, rfl⟩ := rb.num hy
    obtain ⟨z, hz', rfl⟩ := Option.map_eq_some_iff.mp hz
    exact int_sound hz' hw
  cases o
  case add =>
    unfold binD addD at h
    dsimp only at h
    split at h
    · obtain ⟨hl, rfl⟩ := mkList_inv h
      obtain ⟨l, xs, rfl, _, hl1, r1⟩ := ra
      obtain ⟨k, ys, rfl, _, hl2, r2⟩ := rb
      exact add_list_sound hw av hl1 hl2 r1 r2 hl
    · split at h
      · cases h
        exact add_str_sound hw ra rb (by assumption)
      · cases h
    · refine nums (o := .add) ?_
      rw [← h]; rfl
  all_goals exact nums h

/-! comparisons -/
theorem shaped_of {d : D} (h : okD d = true) (c : (toP d).canLay0 = true) : SeqAt.shaped (toP d) = true := by
  unfold SeqAt.shaped
  unfold okD at h
  rw [c, Bool.true_and]
  have := of_decide_eq_true h
  exact decide_eq_true (by omega)
theorem eq_sound {c : Bool} (h : eqD da db = some c) (hu : A.units + 100 < cLine) (hw : Wd f s.toks) (ra : Rd f Av s.heap a da) (rb : Rd f Av s.heap b db) :
    wpAny (model prog w) A (compareOp .Eq a b) (Got A f Av s (.bool c)) E s := by
  unfold eqD at h
  split at h
  · rename_i ok
    rw [Bool.and_eq_true] at ok
    cases h
    obtain ⟨ca, as, qa⟩ := Rd.reads da ra
    obtain ⟨cb, bs, qb⟩ := Rd.reads db rb
    exact eq_dataH qa qb (shaped_of ok.1 ca) (shaped_of ok.2 cb) (by omega) (.bool .refl hw (Nat.le_refl _))
  · cases h
theorem ne_sound {c : Bool} (h : eqD da db = some c) (hu : A.units + 100 < cLine) (hw : Wd f s.toks) (ra : Rd f Av s.heap a da) (rb : Rd f Av s.heap b db) :
    wpAny (model prog w) A (compareOp .NotEq a b) (Got A f Av s (.bool (!c))) E s := by
  unfold eqD at h
  split at h
  · rename_i ok
    rw [Bool.and_eq_true] at ok
    cases h
    obtain ⟨ca, as, qa⟩ := Rd.reads da ra
    obtain ⟨cb, bs, qb⟩ := Rd.reads db rb
    exact ne_dataH qa qb (shaped_of ok.1 ca) (shaped_of ok.2 cb) (by omega) (.bool .refl hw (Nat.le_refl _))
  · cases h
theorem depthAll_le {ds : List D} (h : okD (.list ds) = true) : PyData.depthAll (toPs ds) ≤ 50 := by
  unfold okD at h
  have := of_decide_eq_true h
  simp only [toP, PyData.depth] at this
  omega
theorem toPs_any (g : PyData → Bool) : ∀ ds : List D, (toPs ds).any g = ds.any fun d => g (toP d)
  | [] => rfl
  | d :: ds => by simp only [toPs, List.any_cons, toPs_any g ds]
theorem in_sound {xs : List D} {c : Bool} (h : inD da xs = some c) (hu : A.units + 100 < cLine) (hw : Wd f s.toks) (ra : Rd f Av s.heap a da) (rb : Rd f Av s.heap b (.list xs)) :
    wpAny (model prog w) A (compareOp .In a b) (Got A f Av s (.bool c)) E s := by
  unfold inD at h
  split at h
  · rename_i ok
    rw [Bool.and_eq_true] at ok
    cases h
    obtain ⟨ca, as, qa⟩ := Rd.reads da ra
    obtain ⟨cb, bs, qb⟩ := Rd.reads (.list xs) rb
    refine SeqAt.in_list_reads (xs := toPs xs) (d := toP da) qb qa (by simpa [toP, PyData.canLay0] using cb) ca ?_ ?_
    · have := depthAll_le ok.2
      omega
    · rw [toPs_any]; exact .bool .refl hw (Nat.le_refl _)
  · cases h
theorem notin_sound {xs : List D} {c : Bool} (h : inD da xs = some c) (hu : A.units + 100 < cLine) (hw : Wd f s.toks) (ra : Rd f Av s.heap a da) (rb : Rd f Av s.heap b (.list xs)) :
    wpAny (model prog w) A (compareOp .NotIn a b) (Got A f Av s (.bool (!c))) E s := by
  unfold inD at h
  split at h
  · rename_i ok
    rw [Bool.and_eq_true] at ok
    cases h
    obtain ⟨ca, as, qa⟩ := Rd.reads da ra
    obtain ⟨cb, bs, qb⟩ := Rd.reads (.list xs) rb
    refine SeqAt.notIn_list_reads (xs := toPs xs) (d := toP da) qb qa (by simpa [toP, PyData.canLay0] using cb) ca ?_ ?_
    · have := depthAll_le ok.2
      omega
    · rw [toPs_any]; exact .bool .refl hw (Nat.le_refl _)
  · cases h

theorem hasSub_iff (p : List Nat) : ∀ l : List Nat, hasSub p l = true ↔ ∃ i, i + p.length ≤ l.length ∧ (l.drop i).take p.length = p
  | [] => by
    simp only [hasSub, List.isEmpty_iff, List.length_nil, List.drop_nil, List.take_nil]
    constructor
    · rintro rfl; exact ⟨0, by simp⟩
    · rintro ⟨i, h1, h2⟩; exact h2.symm
  | c :: l => by
    have ih := hasSub_iff p l
    simp only [hasSub, Bool.or_eq_true, ih, List.isPrefixOf_iff_prefix]
    constructor
    · rintro (h | ⟨i, h1, h2⟩)
      · refine ⟨0, ?_, ?_⟩
        · have := h.length_le; simpa using this
        · rw [List.drop_zero]; exact (List.prefix_iff_eq_take.mp h).symm
      · exact ⟨i + 1, by simp only [List.length_cons]; omega, by simpa using h2⟩
    · rintro ⟨i, h1, h2⟩
      cases i with
      | zero => left; rw [List.drop_zero] at h2; exact List.prefix_iff_eq_take.mpr h2.symm
      | succ i => right; exact ⟨i, by simp only [List.length_cons] at h1; omega, by simpa using h2⟩
theorem strIn_eq (x y : Str) : (!(Builtin.Str.occurrences y x 0 y.length 1).isEmpty) = strIn x y := by
  rw [Bool.eq_iff_iff, StrLaws.found_iff]
  unfold strIn
  rw [hasSub_iff]
  have e : ∀ i, Builtin.Str.subAt y x i = true ↔ (y.cps.toList.drop i).take x.cps.toList.length = x.cps.toList := fun i => by
    rw [StrLaws.subAt_eq, beq_iff_eq]
    rfl
  constructor
  · rintro ⟨i, h1, h2⟩; exact ⟨i, by simpa [Str.length] using h1, (e i).mp h2⟩
  · rintro ⟨i, h1, h2⟩; exact ⟨i, by simpa [Str.length] using h1, (e i).mpr h2⟩

theorem cmp_sound {o : CO} (h : cmpD o da db = some d) (hu : A.units + 100 < cLine) (hw : Wd f s.toks) (ra : Rd f Av s.heap a da) (rb : Rd f Av s.heap b db) :
    wpAny (model prog w) A (compareOp o.op a b) (Got A f Av s d) E s := by
  cases o <;> simp only [cmpD] at h
  · obtain ⟨c, hc, rfl⟩ := Option.map_eq_some_iff.mp h
    exact eq_sound hc hu hw ra rb
  · obtain ⟨c, hc, rfl⟩ := Option.map_eq_some_iff.mp h
    exact ne_sound hc hu hw ra rb
  · obtain ⟨x, y, hx, hy, hz⟩ := numsD_inv h
    obtain ⟨t, rfl⟩ := ra.num hx
    obtain ⟨u, rfl⟩ := rb.num hy
    cases hz
    exact lt_int (.bool .refl hw (Nat.le_refl _))
  · obtain ⟨x, y, hx, hy, hz⟩ := numsD_inv h
    obtain ⟨t, rfl⟩ := ra.num hx
    obtain ⟨u, rfl⟩ := rb.num hy
    cases hz
    exact gt_int (.bool .refl hw (Nat.le_refl _))
  · split at h
    · obtain ⟨c, hc, rfl⟩ := Option.map_eq_some_iff.mp h
      exact in_sound hc hu hw ra rb
    · split at h
      · cases h
        obtain ⟨t, rfl, _⟩ := ra
        obtain ⟨u, rfl, _⟩ := rb
        refine P.in_str ?_
        rw [strIn_eq]
        exact .bool .refl hw (Nat.le_refl _)
      · cases h
    · cases h
  · split at h
    · obtain ⟨c, hc, rfl⟩ := Option.map_eq_some_iff.mp h
      exact notin_sound hc hu hw ra rb
    · cases h
  · split at h
    · cases h
      cases ra
      cases rb
      have e : ∀ x y : Bool, (Value.bool x == Value.bool y) = (x == y) := by intro x y; cases x <;> cases y <;> rfl
      exact wpAny_is_plain rfl (by rw [e]; exact .bool .refl hw (Nat.le_refl _))
    · cases h
  · split at h
    · cases h
      cases ra
      cases rb
      have e : ∀ x y : Bool, (Value.bool x == Value.bool y) = (x == y) := by intro x y; cases x <;> cases y <;> rfl
      exact wpAny_isNot_plain rfl (by rw [e]; exact .bool .refl hw (Nat.le_refl _))
    · cases h
end
end Mine
end

section
namespace Mine
open PySem PySem.W PyProof.Rows

/-! slices -/
noncomputable def pickL {α : Type} (l : List α) (lo hi st : Option Int) : List α :=
  (sliceRange (sliceBounds lo hi st l.length).1 (sliceBounds lo hi st l.length).2.1 (sliceBounds lo hi st l.length).2.2).filterMap (l[·]?)

theorem fmGet {α β : Type} (f : α → Option β) : ∀ (l : List α), (∀ x ∈ l, (f x).isSome) → ∀ k : Nat, (l.filterMap f)[k]? = l[k]?.bind f
  | [], _, k => by simp
  | x :: l, h, k => by
    obtain ⟨y, hy⟩ := Option.isSome_iff_exists.mp (h x (List.mem_cons_self ..))
    rw [List.filterMap_cons, hy]
    cases k with
    | zero => simp [hy]
    | succ k => simp only [List.getElem?_cons_succ]; exact fmGet f l (fun z hz => h z (List.mem_cons_of_mem _ hz)) k

theorem stride_get {α : Type} (c : Nat) : ∀ (l : List α) (j k : Nat), (strideL c j l)[k]? = l[j + (c + 1) * k]?
  | [], j, k => by cases j <;> simp [strideL]
  | x :: l, 0, 0 => by simp [strideL]
  | x :: l, 0, k + 1 => by
    have := stride_get c l c k
    simp only [strideL, List.getElem?_cons_succ, this]
    rw [show 0 + (c + 1) * (k + 1) = (c + (c + 1) * k) + 1 by rw [Nat.mul_succ]; omega, List.getElem?_cons_succ]
  | x :: l, j + 1, k => by
    have := stride_get c l j k
    simp only [strideL, this]
    rw [show j + 1 + (c + 1) * k = (j + (c + 1) * k) + 1 by omega, List.getElem?_cons_succ]

theorem pick_up {α : Type} (l : List α) (a b c : Nat) (hb : b ≤ l.length) :
    (sliceRange (a : Int) (b : Int) ((c : Int) + 1)).filterMap (l[·]?) = strideL c 0 ((l.take b).drop a) := by
  have hc : (c : Int) + 1 > 0 := by omega
  unfold sliceRange
  simp only [hc, if_true]
  have key : ∀ k : Nat, (k < (if (a : Int) < b then ((b : Int) - a + (c + 1) - 1) / (c + 1) else 0).toNat) ↔ a + (c + 1) * k < b := by
    intro k
    by_cases hab : (a : Int) < b
    · rw [if_pos hab]
      have h1 : 0 ≤ ((b : Int) - a + (c + 1) - 1) / (c + 1) := Int.ediv_nonneg (by omega) (by omega)
      have h2 := Int.le_ediv_iff_mul_le (a := (k : Int) + 1) (b := (b : Int) - a + (c + 1) - 1) (c := (c : Int) + 1) hc
      have e : ((k : Int) + 1) * ((c : Int) + 1) = ((c : Int) + 1) * k + c + 1 := by rw [Int.add_mul, Int.mul_comm]; omega
      have e2 : (((c + 1) * k : Nat) : Int) = ((c : Int) + 1) * k := by push_cast; rfl
      constructor
      · intro h
        have : (k : Int) + 1 ≤ ((b : Int) - a + (c + 1) - 1) / (c + 1) := by omega
        have := h2.mp this
        rw [e] at this
        omega
      · intro h
        have : (k : Int) + 1 ≤ ((b : Int) - a + (c + 1) - 1) / (c + 1) := h2.mpr (by rw [e]; omega)
        omega
    · rw [if_neg hab]
      simp only [Int.toNat_zero]
      omega
  generalize (if (a : Int) < b then ((b : Int) - a + (c + 1) - 1) / (c + 1) else 0).toNat = n at key
  have ex : ∀ k : Nat, ((a : Int) + ((c : Int) + 1) * (k : Int)).toNat = a + (c + 1) * k := fun k => by
    rw [show (a : Int) + ((c : Int) + 1) * (k : Int) = ((a + (c + 1) * k : Nat) : Int) by push_cast; rfl]; exact Int.toNat_natCast _
  apply List.ext_getElem?
  intro k
  rw [fmGet, stride_get]
  · rw [List.getElem?_map, Nat.zero_add, List.getElem?_drop]
    by_cases hk : k < n
    · rw [List.getElem?_range hk, List.getElem?_take_of_lt ((key k).mp hk)]
      simp [ex]
    · rw [List.getElem?_eq_none (by simpa using hk), List.getElem?_eq_none]
      · rfl
      · rw [List.length_take]
        have := mt (key k).mpr hk
        omega
  · intro i hi
    obtain ⟨k, hk, rfl⟩ := List.mem_map.mp hi
    rw [ex]
    have := (key k).mp (List.mem_range.mp hk)
    rw [List.getElem?_eq_getElem (by omega)]; rfl

theorem stride_zero {α : Type} : ∀ l : List α, strideL 0 0 l = l
  | [] => rfl
  | x :: l => by rw [strideL, stride_zero l]

theorem take_min {α : Type} (l : List α) (n : Nat) : l.take (min n l.length) = l.take n := by
  rcases Nat.le_total n l.length with h | h
  · rw [Nat.min_eq_left h]
  · rw [Nat.min_eq_right h, List.take_length, List.take_of_length_le h]
theorem drop_take_min {α : Type} (l : List α) (a b : Nat) : ((l.take b).drop (min a l.length)) = (l.take b).drop a := by
  rcases Nat.le_total a l.length with h | h
  · rw [Nat.min_eq_left h]
  · rw [Nat.min_eq_right h, List.drop_eq_nil_of_le (by rw [List.length_take]; omega), List.drop_eq_nil_of_le (by rw [List.length_take]; omega)]

theorem clampI {a : Int} (n : Nat) (h : 0 ≤ a) : max 0 (min a (n : Int)) = ((min a.toNat n : Nat) : Int) := by omega
theorem clampS (n : Nat) : max 0 (min (n : Int) (n : Int)) = n := by omega
theorem clampZ (n : Nat) : max 0 (min (0 : Int) (n : Int)) = 0 := by omega
theorem succ_of_pos {c : Int} (h : 0 < c) : ∃ c' : Nat, c = (c' : Int) + 1 := ⟨(c - 1).toNat, by omega⟩
theorem pos_succ (c : Nat) : (c : Int) + 1 > 0 := by omega
theorem toNat_succ (c : Nat) : ((c : Int) + 1).toNat - 1 = c := by omega
theorem pickL_eq {α : Type} (l : List α) (lo hi st : Option Int) {l' : List α} (h : sliceL l lo hi st = some l') : pickL l lo hi st = l' := by
  have up : ∀ (a b : Int) (c : Nat), 0 ≤ a → 0 ≤ b → (sliceRange (max 0 (min a l.length)) (max 0 (min b l.length)) ((c : Int) + 1)).filterMap (l[·]?) = strideL c 0 ((l.take b.toNat).drop a.toNat) := by
    intro a b c ha hb
    rw [clampI l.length ha, clampI l.length hb, pick_up l _ _ c (Nat.min_le_right _ _), take_min, drop_take_min]
  have up0 : ∀ (b : Int) (c : Nat), 0 ≤ b → (sliceRange 0 (max 0 (min b l.length)) ((c : Int) + 1)).filterMap (l[·]?) = strideL c 0 (l.take b.toNat) := by
    intro b c hb
    have := up 0 b c (Int.le_refl _) hb
    rw [clampZ] at this
    simpa using this
  have upn : ∀ (a : Int) (c : Nat), 0 ≤ a → (sliceRange (max 0 (min a l.length)) (l.length : Int) ((c : Int) + 1)).filterMap (l[·]?) = strideL c 0 (l.drop a.toNat) := by
    intro a c ha
    have := up a l.length c ha (Int.natCast_nonneg _)
    rw [clampS] at this
    simpa using this
  unfold pickL
  rcases lo with _ | a <;> rcases hi with _ | b <;> rcases st with _ | c <;> simp only [sliceL] at h
  · cases h
    have := up0 l.length 0 (Int.natCast_nonneg _)
    rw [clampS] at this
    simpa [sliceBounds, stride_zero] using this
  · split at h
    · rename_i hc
      cases h
      subst hc
      have hn : ¬ ((-1 : Int) > 0) := by decide
      simp only [sliceBounds, Option.getD_some, hn, if_false]
      rw [krv_sliceRange]
      apply List.ext_getElem?
      intro k
      rw [fmGet]
      · rw [List.getElem?_map]
        by_cases hk : k < l.length
        · rw [List.getElem?_range hk, List.getElem?_reverse hk]; rfl
        · rw [List.getElem?_eq_none (by simpa using hk), List.getElem?_eq_none (by simpa using hk)]; rfl
      · intro i hi
        obtain ⟨k, hk, rfl⟩ := List.mem_map.mp hi
        have := List.mem_range.mp hk
        rw [List.getElem?_eq_getElem (by omega)]; rfl
    · cases h
  · split at h
    · rename_i hb
      cases h
      have := up0 b 0 hb
      have nb : ¬ b < 0 := Int.not_lt.mpr hb
      simpa [sliceBounds, stride_zero, nb] using this
    · cases h
  · cases h
  · split at h
    · rename_i ha
      cases h
      have := upn a 0 ha
      have na : ¬ a < 0 := Int.not_lt.mpr ha
      simpa [sliceBounds, stride_zero, na] using this
    · cases h
  · cases h
  · split at h
    · rename_i hab
      cases h
      have := up a b 0 hab.1 hab.2
      have na : ¬ a < 0 := Int.not_lt.mpr hab.1
      have nb : ¬ b < 0 := Int.not_lt.mpr hab.2
      simpa [sliceBounds, stride_zero, na, nb] using this
    · cases h
  · split at h
    · rename_i habc
      cases h
      obtain ⟨c', rfl⟩ := succ_of_pos habc.2.2
      have := up a b c' habc.1 habc.2.1
      have na : ¬ a < 0 := Int.not_lt.mpr habc.1
      have nb : ¬ b < 0 := Int.not_lt.mpr habc.2.1
      have hc : (c' : Int) + 1 > 0 := pos_succ c'
      have hc' : ((c' : Int) + 1).toNat - 1 = c' := toNat_succ c'
      simp only [sliceBounds, Option.getD_some, hc, if_true, na, if_false, nb, hc']
      exact this
    · cases h

theorem slicePick_eq (its : Array Value) (lo hi st : Option Int) : (slicePick its lo hi st) = (pickL its.toList lo hi st).toArray := by
  unfold slicePick pickL
  simp

theorem rdAll_take {f : TokMap} {Av : Addr → Prop} {h : Heap} : ∀ (n : Nat) {vs : List Value} {ds : List D}, RdAll f Av h vs ds → RdAll f Av h (vs.take n) (ds.take n)
  | 0, _, _, _ => by simp [RdAll.nil]
  | n + 1, _, [], r => by cases r; simp [RdAll.nil]
  | n + 1, _, d :: ds, ⟨v, ws, p, q1, q2⟩ => by subst p; exact .cons q1 (rdAll_take n q2)
theorem rdAll_drop {f : TokMap} {Av : Addr → Prop} {h : Heap} : ∀ (n : Nat) {vs : List Value} {ds : List D}, RdAll f Av h vs ds → RdAll f Av h (vs.drop n) (ds.drop n)
  | 0, _, _, r => by simpa using r
  | n + 1, _, [], r => by cases r; simp [RdAll.nil]
  | n + 1, _, d :: ds, ⟨v, ws, p, q1, q2⟩ => by subst p; exact rdAll_drop n q2
theorem rdAll_reverse {f : TokMap} {Av : Addr → Prop} {h : Heap} : ∀ {ds : List D} {vs : List Value}, RdAll f Av h vs ds → RdAll f Av h vs.reverse ds.reverse
  | [], _, r => by cases r; exact .nil
  | d :: ds, _, ⟨v, ws, p, q1, q2⟩ => by subst p; rw [List.reverse_cons, List.reverse_cons]; exact RdAll.append (.one q1) (rdAll_reverse q2)
theorem rdAll_stride {f : TokMap} {Av : Addr → Prop} {h : Heap} (c : Nat) : ∀ {ds : List D} {vs : List Value} (j : Nat), RdAll f Av h vs ds → RdAll f Av h (strideL c j vs) (strideL c j ds)
  | [], _, j, r => by cases r; cases j <;> exact .nil
  | d :: ds, _, 0, ⟨v, ws, p, q1, q2⟩ => by subst p; exact .cons q1 (rdAll_stride c c q2)
  | d :: ds, _, j + 1, ⟨v, ws, p, q1, q2⟩ => by subst p; exact rdAll_stride c j q2

theorem rdAll_slice {f : TokMap} {Av : Addr → Prop} {h : Heap} {vs : List Value} {ds es : List D} {lo hi st : Option Int} (r : RdAll f Av h vs ds) (e : sliceL ds lo hi st = some es) :
    ∃ ws, sliceL vs lo hi st = some ws ∧ RdAll f Av h ws es := by
  rcases lo with _ | a <;> rcases hi with _ | b <;> rcases st with _ | c <;> simp only [sliceL] at e ⊢
  · cases e; exact ⟨_, rfl, r⟩
  · split at e
    · cases e; rename_i q; exact ⟨_, if_pos q, rdAll_reverse r⟩
    · cases e
  · split at e
    · cases e; rename_i q; exact ⟨_, if_pos q, rdAll_take _ r⟩
    · cases e
  · cases e
  · split at e
    · cases e; rename_i q; exact ⟨_, if_pos q, rdAll_drop _ r⟩
    · cases e
  · cases e
  · split at e
    · cases e; rename_i q; exact ⟨_, if_pos q, rdAll_drop _ (rdAll_take _ r)⟩
    · cases e
  · split at e
    · cases e; rename_i q; exact ⟨_, if_pos q, rdAll_stride _ _ (rdAll_drop _ (rdAll_take _ r))⟩
    · cases e
end Mine
end

section
namespace Mine
open PySem PySem.W PyProof.Rows

section
variable {prog : Program} {w : World} {A : Around} {E : Value → Shared → Prop} {f : TokMap} {Av : Addr → Prop} {s : Shared} {a b : Value} {da db d : D}

theorem strOk_of_mem {x : Str} (h : PyData.strOk x = true) {l : List Nat} (hl : ∀ c ∈ l, c ∈ x.cps.toList) : PyData.strOk ⟨l.toArray⟩ = true := by
  unfold PyData.strOk at *
  rw [← Array.all_toList] at *
  rw [List.all_eq_true] at *
  exact fun c hc => h c (hl c (by simpa using hc))

/-! items -/
theorem item_sound {i : Value} {di : D} (h : itemD da di = some d) (hw : Wd f s.toks) (ra : Rd f Av s.heap a da) (ri : Rd f Av s.heap i di) :
    wpAny (model prog w) A (getItem a i) (Got A f Av s d) E s := by
  unfold itemD at h
  split at h
  · rename_i k hk
    obtain ⟨t, rfl⟩ := ri.num hk
    split at h
    · rename_i h0
      split at h
      · split at h
        · rename_i xs hsz
          obtain ⟨l, its, rfl, _, hl, r⟩ := ra
          obtain ⟨v, hv, hr⟩ := r.get h
          have hlen := r.length
          have hlt := (List.getElem?_eq_some_iff.mp h).1
          have : lim ≤ 2 ^ 62 := by decide
          exact wpAny_getItem_list hl h0 (by omega) (by simpa using hv) (.same .refl hw (Nat.le_refl _) hr)
        · cases h
      · split at h
        · rename_i x hsz
          obtain ⟨u, rfl, u0, uf, ok⟩ := ra
          obtain ⟨c, hc, rfl⟩ := Option.map_eq_some_iff.mp h
          have hlt := (List.getElem?_eq_some_iff.mp hc).1
          have hlt' : k.toNat < x.length := by simpa [Str.length] using hlt
          have hl : lim ≤ 2 ^ 62 := by decide
          refine P.getItem_str (c := c) ?_ ?_ (.str .tok hw (Nat.le_refl _) (Nat.lt_succ_self _) ?_)
          · rw [Bool.or_eq_false_iff, decide_eq_false_iff_not, decide_eq_false_iff_not]; omega
          · have e : seqIndex? k x.length = some k.toNat := by
              unfold seqIndex?
              have n0 : ¬ k < 0 := by omega
              simp only [n0, if_false]
              rw [if_pos]
              simp; omega
            rw [e]
            simpa using hc
          · have := strOk_of_mem ok (l := [c]) (fun y hy => by rw [List.mem_singleton.mp hy]; exact List.mem_of_getElem? hc)
            simpa using this
        · cases h
      · cases h
    · cases h
  · cases h

/-! slices -/
theorem part_is {v : Value} {p : Option Int} (h : da.part = some p) (r : Rd f Av s.heap v da) : IsPart v p ∧ ∃ q : Option (Int × Tok), v = partValue q ∧ q.map (·.1) = p := by
  cases da <;> simp only [D.part] at h <;> first | (cases h; done) | skip
  · cases h; cases r; exact ⟨.none, none, rfl, rfl⟩
  · cases h; obtain ⟨t, rfl, _, _⟩ := r; exact ⟨.int _ _, some (_, t), rfl, rfl⟩
  · cases h; obtain ⟨t, rfl⟩ := r; exact ⟨.int _ _, some (_, t), rfl, rfl⟩

theorem slice_sound {vl vu vs : Value} {lo hi st : D} {sl : Addr} (h : sliceD da lo hi st = some d) (hw : Wd f s.toks) (av : ∀ a, Av a → ∃ o, s.heap.get? a = some o) (ra : Rd f Av s.heap a da)
    (rl : Rd f Av s.heap vl lo) (ru : Rd f Av s.heap vu hi) (rs : Rd f Av s.heap vs st) (hs : s.heap.IsSliceOf sl vl vu vs) :
    wpAny (model prog w) A (getItem a (.ref sl)) (Got A f Av s d) E s := by
  unfold sliceD at h
  obtain ⟨pl, hpl, h⟩ := Option.bind_eq_some_iff.mp h
  obtain ⟨pu, hpu, h⟩ := Option.bind_eq_some_iff.mp h
  obtain ⟨ps, hps, h⟩ := Option.bind_eq_some_iff.mp h
  obtain ⟨il, ql, rfl, el⟩ := part_is hpl rl
  obtain ⟨iu, qu, rfl, eu⟩ := part_is hpu ru
  obtain ⟨is, qs, rfl, es⟩ := part_is hps rs
  cases da with
  | list xs =>
    dsimp only at h
    split at h
    · rename_i hsz
      obtain ⟨es, he, rfl⟩ := Option.map_eq_some_iff.mp h
      obtain ⟨l, its, rfl, _, hl, r⟩ := ra
      obtain ⟨ws, hws, r'⟩ := rdAll_slice r he
      have hp := pickL_eq _ _ _ _ hws
      have h0 : ps ≠ some 0 := by
        rintro rfl
        revert he
        rcases pl with _ | x <;> rcases pu with _ | y <;> simp [sliceL]
      have hlen := r.length
      rw [Array.length_toList] at hlen
      refine wpAny_getItem_list_slice hl hs il iu is h0 ?_ (by have := lim_le; omega)
      rw [slicePick_eq, hp]
      exact got_newList hw av r'
    · cases h
  | str x =>
    dsimp only at h
    obtain ⟨u, rfl, u0, uf, ok⟩ := ra
    have hsl : s.heap.IsSlice sl ql qu qs := hs
    rcases pl with _ | x' <;> rcases pu with _ | y' <;> rcases ps with _ | c <;> dsimp only at h <;> first | (cases h; done) | skip
    · split at h
      · rename_i hc
        cases h
        obtain ⟨rfl, hlim⟩ := hc
        have ql0 : ql = none := by cases ql <;> simp at el <;> rfl
        have qu0 : qu = none := by cases qu <;> simp at eu <;> rfl
        subst ql0 qu0
        have e1 : slicePicked x none none qs = (List.range x.length).map fun k => x.length - 1 - k := by
          unfold slicePicked
          rw [es]; exact picked_rev _
        have e2 : (slicePicked x none none qs).filterMap (x.cps[·]?) = x.cps.toList.reverse := by
          rw [e1]
          apply List.ext_getElem?
          intro k
          rw [fmGet]
          · rw [List.getElem?_map]
            by_cases hk : k < x.length
            · rw [List.getElem?_range hk, List.getElem?_reverse (by simpa [Str.length] using hk)]
              simp [Str.length]
            · rw [List.getElem?_eq_none (by simpa using hk), List.getElem?_eq_none (by simpa [Str.length] using hk)]; rfl
          · intro i hi
            obtain ⟨k, hk, rfl⟩ := List.mem_map.mp hi
            have := List.mem_range.mp hk
            have hh : x.length - 1 - k < x.cps.size := by simp only [Str.length] at *; omega
            rw [Array.getElem?_eq_getElem hh]; rfl
        refine wpAny_getItem_str_slice hsl ?_ ?_
        · rw [es]; rfl
        · unfold sliceMade
          rw [es]
          rw [if_neg (by simp)]
          rw [e2]
          refine ⟨?_, .str .tok hw (Nat.le_refl _) (Nat.lt_succ_self _) (strOk_of_mem ok fun c hc => by simpa using hc)⟩
          have : lim ≤ sizeLine := lim_le
          simp only [Str.length, List.size_toArray, List.length_reverse, Array.length_toList] at *
          omega
      · cases h
    · split at h
      · rename_i hc
        cases h
        obtain ⟨hx0, hxy, hyl, hlim⟩ := hc
        have qs0 : qs = none := by cases qs <;> simp at es <;> rfl
        subst qs0
        have e1 : slicePicked x ql qu none = Builtin.Str.strSliceIndices (some (x'.toNat : Int)) (some (y'.toNat : Int)) 1 x.length := by
          unfold slicePicked
          rw [el, eu, Int.toNat_of_nonneg hx0, Int.toNat_of_nonneg (by omega)]; rfl
        have e2 : (slicePicked x ql qu none).filterMap (x.cps[·]?) = (x.cps.toList.drop x'.toNat).take (y'.toNat - x'.toNat) := by
          rw [e1]; exact StrLaws.sliced_plain x (by omega) (by omega)
        have e3 : (slicePicked x ql qu none).length = y'.toNat - x'.toNat := by
          rw [e1, StrLaws.strSliceIndices_plain (by omega) (by omega)]; simp
        refine wpAny_getItem_str_slice hsl rfl ?_
        unfold sliceMade
        split
        · rename_i hh
          rw [Bool.and_eq_true, beq_iff_eq, beq_iff_eq, e3] at hh
          have hz : x'.toNat = 0 := by omega
          have hy : y'.toNat = x.length := by omega
          have ex : (⟨((x.cps.toList.drop x'.toNat).take (y'.toNat - x'.toNat)).toArray⟩ : Str) = x := by
            rw [hz, hy, List.drop_zero, Nat.sub_zero, List.take_of_length_le (by simp [Str.length])]
          rw [ex]
          exact .same .refl hw (Nat.le_refl _) ⟨u, rfl, u0, uf, ok⟩
        · rw [e2]
          refine ⟨?_, .str .tok hw (Nat.le_refl _) (Nat.lt_succ_self _) (strOk_of_mem ok fun c hc => List.mem_of_mem_drop (List.mem_of_mem_take hc))⟩
          have : lim ≤ sizeLine := lim_le
          simp only [Str.length, List.size_toArray, List.length_take, List.length_drop, Array.length_toList] at *
          omega
      · cases h
  | _ => cases h
end
end Mine
end

section
namespace Mine
open PySem PySem.W PyProof.Rows

theorem withToks {α : Type} {M : Model} {A : Around} {t : Sem α} {Q : α → Shared → Prop} {E : Value → Shared → Prop} {s : Shared}
    (h : wpAny M A t (fun v s' => s.toks ≤ s'.toks → Q v s') E s) : wpAny M A t Q E s :=
  wpAny_mono (wpAny_toks_of (n := s.toks) (Nat.le_refl _) h) (fun _ _ q => q.2 q.1) fun _ _ q => q.2

section
variable {prog : Program} {w : World} {A : Around} {E : Value → Shared → Prop} {f : TokMap} {Av : Addr → Prop} {s : Shared} {a b : Value} {da db d : D}

theorem intItems_of {h : Heap} : ∀ {ds : List D} {ns : List Int} {vs : List Value}, intsOf ds = some ns → RdAll f Av h vs ds → ∃ ts : List (Int × Tok), vs = ts.map (fun p => Value.int p.1 p.2) ∧ ts.map (·.1) = ns
  | [], _, _, e, r => by cases e; cases r; exact ⟨[], rfl, rfl⟩
  | d :: ds, ns, _, e, ⟨v, ws, p, q1, q2⟩ => by
    simp only [intsOf] at e
    obtain ⟨i, hi, e⟩ := Option.bind_eq_some_iff.mp e
    obtain ⟨ms, hm, rfl⟩ := Option.map_eq_some_iff.mp e
    obtain ⟨t, rfl⟩ := q1.num hi
    obtain ⟨ts, rfl, rfl⟩ := intItems_of hm q2
    exact ⟨(i, t) :: ts, p, rfl⟩

theorem sum_sound (h : sumD da = some d) (hh : A.handled = none) (hw : Wd f s.toks) (ra : Rd f Av s.heap a da) :
    wpAny (model prog w) A (call (.builtin "sum") [a]) (Got A f Av s d) E s := by
  cases da <;> simp only [sumD] at h <;> first | (cases h; done) | skip
  obtain ⟨ns, hn, rfl⟩ := Option.map_eq_some_iff.mp h
  obtain ⟨l, its, rfl, _, hl, r⟩ := ra
  obtain ⟨ts, e, rfl⟩ := intItems_of hn r
  have e' : its = intItems ts.toArray := by
    apply Array.toList_inj.mp
    rw [e]; simp [intItems]
  subst e'
  refine withToks (sum_intListG hh hl fun h' tk t' hk ht => ?_)
  rw [preSum_eq, List.take_of_length_le (by simp)]
  simp only
  exact .raw (.of hk) hw ht

theorem len_sound (h : lenD da = some d) (hw : Wd f s.toks) (ra : Rd f Av s.heap a da) :
    wpAny (model prog w) A (call (.builtin "len") [a]) (Got A f Av s d) E s := by
  have hl : lim ≤ 2 ^ 62 := by decide
  cases da <;> simp only [lenD] at h <;> first | (cases h; done) | skip
  · split at h
    · cases h
      rename_i x hsz
      obtain ⟨u, rfl, u0, uf, ok⟩ := ra
      exact P.len_str (by omega) (.int .tok hw (Nat.le_succ _) (Nat.lt_succ_self _))
    · cases h
  · split at h
    · cases h
      rename_i xs hsz
      obtain ⟨l, its, rfl, _, hl', r⟩ := ra
      have hlen := r.length
      rw [Array.length_toList] at hlen
      refine len_list hl' (by omega) ?_
      rw [hlen]
      exact .int .tok hw (Nat.le_succ _) (Nat.lt_succ_self _)
    · cases h

/-! «is» ahead of «==» -/
theorem isSame_any {x y : Value} {R : Bool → Shared → Prop} (nb : NoneBooked s.heap) (ra : Rd f Av s.heap x da) (rb : Rd f Av s.heap y db) (k : isKind da db = true)
    (h : ∀ c, (c = true → toP da = toP db) → R c s) : wpAny (model prog w) A (isSame x y) R E s := by
  have created : ∀ (c : Bool) (t u : Tok) (P : Prop), t ≠ 0 → u ≠ 0 → (t = u → toP da = toP db) → (c = true → toP da = toP db) → wpAny (model prog w) A (isSame.created c t u) R E s := by
    intro c t u _ t0 u0 h1 h2
    unfold isSame.created
    refine wpAny_ite ?_
    split
    · rename_i q; simp [t0, u0] at q
    refine wpAny_ite ?_
    split
    · rename_i q; exact wpAny_pure (h _ fun _ => h1 (by simpa using q))
    refine wpAny_ite ?_
    split
    · exact wpAny_pure (h _ fun q => by cases q)
    rename_i q
    have hc : c = true := by simpa using q
    refine wpAny_bind (wpAny_sharingNotTold_none nb ?_)
    first | rw [if_neg Bool.false_ne_true] | simp only [Bool.false_eq_true, if_false]
    refine wpAny_bind (wpAny_sharingNotTold_none nb ?_)
    first | rw [if_neg Bool.false_ne_true] | simp only [Bool.false_eq_true, if_false]
    exact wpAny_bind (wpAny_rule (wpAny_bind (wpAny_askSetting (wpAny_pure (h _ fun _ => h2 hc)))))
  unfold isKind at k
  split at k
  · rename_i i j
    obtain ⟨t, rfl, t0, tf⟩ := ra
    obtain ⟨u, rfl, u0, uf⟩ := rb
    have tu : t = u → toP (.int i) = toP (.int j) := fun q => by subst q; rw [tf] at uf; cases uf; rfl
    show wpAny _ A (if (i == j && smallInt i) = true then isSame.cachedInt t u else isSame.created (i == j) t u) R E s
    refine wpAny_ite ?_
    split
    · rename_i q
      unfold isSame.cachedInt
      refine wpAny_ite ?_
      split
      · rename_i q; simp [t0, u0] at q
      · exact wpAny_bind (wpAny_rule (wpAny_pure (h _ fun _ => by simp at q; rw [q.1])))
    · exact created _ t u True t0 u0 tu fun q => by simp at q; rw [q]
  · rename_i x y
    obtain ⟨t, rfl, t0, tf, _⟩ := ra
    obtain ⟨u, rfl, u0, uf, _⟩ := rb
    exact created _ t u True t0 u0 (fun q => by subst q; rw [tf] at uf; cases uf; rfl) fun q => by simp at q; rw [q]
  · rename_i p q
    cases ra
    cases rb
    refine wpAny_isSame_plain rfl (h _ fun e => ?_)
    have : p = q := by cases p <;> cases q <;> first | rfl | (simp at e)
    rw [this]
  · rename_i xs ys
    have ra' := ra
    have rb' := rb
    obtain ⟨l, its, rfl, _, hl, r⟩ := ra
    obtain ⟨m, jts, rfl, _, hm, q⟩ := rb
    by_cases e : l = m
    · subst e
      refine wpAny_isSame_ref_self (h _ fun _ => ?_)
      obtain ⟨c1, as, q1⟩ := Rd.reads _ ra'
      obtain ⟨c2, bs, q2⟩ := Rd.reads _ rb'
      exact SeqAt.Reads.unique _ _ _ _ _ c1 q1 q2
    · obtain ⟨o, ho, hc, _⟩ := hl
      obtain ⟨o', ho', hc', _⟩ := hm
      exact wpAny_isSame_ref_other e ho ho' (by rw [hc]; simp) (h _ fun q => by cases q)
  · cases k
end
end Mine
end

section
namespace Mine
open PySem PySem.W PyProof.Rows

noncomputable def KeepB (fp : List Addr) (h h' : Heap) : Prop := ∀ b o, b ∉ fp → h.get? b = some o → h'.get? b = some o
theorem KeepB.keepX {A : Around} {fp : List Addr} {h h' : Heap} (k : KeepB fp h h') : KeepX A (· ∈ fp) h h' := .of_but k

/-- an iterator over data: its item, and what the loop's head does with it -/
structure Itr (prog : Program) (w : World) (A : Around) (target : Expr) (Av : Addr → Prop) (I : Addr) (fp : List Addr) (ds : List D) (St : Nat → Heap → TokMap → Prop) : Prop where
  objs : ∀ i h f, St i h f → ∀ b ∈ fp, ∃ o vs, h.get? b = some o ∧ o.data = .fields vs
  frame : ∀ i h h' f f' (W : Addr → Prop), St i h f → Ext f f' → KeepX A W h h' → Clear W Av h → (∀ b ∈ fp, ¬ W b ∧ ¬ FS A b) → St i h' f'
  item : ∀ i d (s : Shared) (f : TokMap) (Q : Value → Shared → Prop) (E : Value → Shared → Prop), ds[i]? = some d → St i s.heap f → Wd f s.toks → (∀ b ∈ fp, ¬ FS A b) →
    (∀ v h' tk f', Ext f f' → Wd f' tk → s.toks ≤ tk → Rd f' Av h' v d → St (i + 1) h' f' → KeepB fp s.heap h' → Q v { s with heap := h', toks := tk }) →
    wpAny (model prog w) A (pyNext (.ref I)) (fun r s₁ => ∃ v, r = some v ∧ wpAny (model prog w) A (letOwnedTupleGo target (.ref I) v) (fun _ s₂ => Q v s₂) E s₁) E s
  done : ∀ (s : Shared) (f : TokMap) (Q : Option Value → Shared → Prop) (E : Value → Shared → Prop), St ds.length s.heap f →
    (∀ h' tk, s.toks ≤ tk → KeepB fp s.heap h' → Q none { s with heap := h', toks := tk }) → wpAny (model prog w) A (pyNext (.ref I)) Q E s
  self : ∀ i (s : Shared) (f : TokMap) (Q : Value → Shared → Prop) (E : Value → Shared → Prop), St i s.heap f → Q (.ref I) s → wpAny (model prog w) A (pyIter (.ref I)) Q E s

section
variable {prog : Program} {w : World} {A : Around} {E : Value → Shared → Prop} {f : TokMap} {Av : Addr → Prop} {s : Shared}

/-- the loop's head does nothing with an iterator that owns no tuple -/
theorem letGo_none {target : Expr} {I : Addr} {v : Value} {T : String} {o : Obj} {Q : Unit → Shared → Prop} (ho : s.heap.get? I = some o) (hc : o.cls = .type T)
    (hT : (["enumerate", "zip", "dict_itemiterator", "dict_reverseitemiterator", "odict_iterator", "itertools.zip_longest", "itertools.pairwise"].contains T) = false) (hQ : Q () s) :
    wpAny (model prog w) A (letOwnedTupleGo target (.ref I) v) Q E s := by
  have key : ∀ b : Addr, wpAny (model prog w) A (do
      let o ← load I
      match o.cls, o.data with
      | .type n, .fields vs =>
        if ["enumerate", "zip", "dict_itemiterator", "dict_reverseitemiterator", "odict_iterator", "itertools.zip_longest", "itertools.pairwise"].contains n && vs[0]? == some (rawInt b) then
          rule "for.unpacks-the-owned-tuple"
          updateField I 0 .none
      | _, _ => pure () : Sem Unit) Q E s := by
    intro b
    refine wpAny_bind (wpAny_load ho ?_)
    rw [hc]
    split
    · rename_i n vs e _
      cases e
      rw [if_neg (by rw [hT]; simp)]
      exact wpAny_pure hQ
    · exact wpAny_pure hQ
  unfold letOwnedTupleGo
  split
  · cases v <;> first | exact wpAny_pure hQ | exact key _
  · cases v <;> first | exact wpAny_pure hQ | exact key _
  · exact wpAny_pure hQ

theorem sameBut_keepB {I : Addr} {h h' : Heap} (k : Heap.SameBut I h h') : KeepB [I] h h' := fun b o n e => k.extBut b o (fun q => n (by simp [q])) e
theorem extBut_keepB {I : Addr} {h h' : Heap} (k : Heap.ExtBut I h h') : KeepB [I] h h' := fun b o n e => k b o (fun q => n (by simp [q])) e

theorem clear_fp {fp : List Addr} {h : Heap} {Av : Addr → Prop} (hf : ∀ b ∈ fp, ∃ o vs, h.get? b = some o ∧ o.data = .fields vs) : Clear (· ∈ fp) Av h := fun b o xs n hb e d => by
  obtain ⟨o', vs, e', d'⟩ := hf b hb
  rw [e] at e'; cases e'
  rw [d] at d'; cases d'

theorem exact_of {W : Addr → Prop} {h h' : Heap} {b : Addr} {o : Obj} (k : KeepX A W h h') (n : ¬ W b ∧ ¬ FS A b) (e : h.get? b = some o) : h'.get? b = some o := by
  obtain ⟨o', e', q, _⟩ := k b o n.1 e
  rw [q n.2] at e'; exact e'

/-- over a list -/
theorem itr_list (hh : A.handled = none) {target : Expr} {I l : Addr} {its : Array Value} {ds : List D} (hl : ¬ Av l) :
    Itr prog w A target Av I [I] ds (fun i h f => h.IsListIter I l i ∧ h.IsList l its ∧ RdAll f Av h its.toList ds) where
  objs := fun i h f st b hb => by
    rw [List.mem_singleton.mp hb]
    obtain ⟨⟨o, ho, _, hd⟩, _⟩ := st
    exact ⟨o, _, ho, hd⟩
  frame := fun i h h' f f' W st e k cl n => ⟨st.1.at fun o e => exact_of k (n I (by simp)) e, isList_keepC k cl hl st.2.1, RdAll.keepX k cl e ds st.2.2⟩
  item := fun i d s f Q E hd st hw _ hQ => by
    obtain ⟨v, hv, hr⟩ := st.2.2.get hd
    refine wpAny_pyNext_list_item st.1 st.2.1 (x := v) (by simpa using hv) fun h' hit' hs' => ⟨v, rfl, ?_⟩
    obtain ⟨o, ho, hc, _⟩ := id hit'
    refine letGo_none (T := "list_iterator") ho hc (by decide) ?_
    have cl : Clear (· ∈ [I]) Av s.heap := clear_fp fun b hb => by
      rw [List.mem_singleton.mp hb]
      obtain ⟨⟨o, ho, _, hd⟩, _⟩ := st
      exact ⟨o, _, ho, hd⟩
    have k : KeepX A (· ∈ [I]) s.heap h' := (sameBut_keepB hs').keepX
    exact hQ v h' s.toks f (.refl f) hw (Nat.le_refl _) (Rd.keepX k cl (.refl f) d hr) ⟨hit', isList_keepC k cl hl st.2.1, RdAll.keepX k cl (.refl f) ds st.2.2⟩ (sameBut_keepB hs')
  done := fun s f Q E st hQ => by
    have hlen := st.2.2.length
    rw [Array.length_toList] at hlen
    refine wpAny_pyNext_list_end hh st.1 st.2.1 (by simp [← hlen]) fun h' he' => hQ h' s.toks (Nat.le_refl _) (extBut_keepB he')
  self := fun i s f Q E st hQ => wpAny_pyIter_listiter st.1 hQ

theorem rangeL_get : ∀ (n : Nat) (a : Int) (i : Nat) (d : D), (rangeL a n)[i]? = some d → i < n ∧ d = .int (a + i)
  | 0, a, i, d, h => by simp [rangeL] at h
  | n + 1, a, 0, d, h => by simp [rangeL] at h; exact ⟨Nat.succ_pos _, by rw [← h]; simp⟩
  | n + 1, a, i + 1, d, h => by
    simp only [rangeL, List.getElem?_cons_succ] at h
    obtain ⟨h1, h2⟩ := rangeL_get n (a + 1) i d h
    exact ⟨Nat.succ_lt_succ h1, by rw [h2]; congr 1; push_cast; omega⟩
theorem rangeL_length : ∀ (n : Nat) (a : Int), (rangeL a n).length = n
  | 0, _ => rfl
  | n + 1, a => by simp [rangeL, rangeL_length n]

/-- over a range -/
theorem itr_range (hh : A.handled = none) {target : Expr} {I : Addr} (a : Int) (n : Nat) :
    Itr prog w A target Av I [I] (rangeL a n) (fun i h _ => IsRangeIter h I (a + (i : Nat)) ((n : Int) - (i : Nat)) 1) where
  objs := fun i h f st b hb => by rw [List.mem_singleton.mp hb]; exact ⟨_, _, st, rfl⟩
  frame := fun i h h' f f' W st e k cl nn => exact_of k (nn I (by simp)) st
  item := fun i d s f Q E hd st hw _ hQ => by
    obtain ⟨hi, rfl⟩ := rangeL_get n a i d hd
    refine wpAny_pyNext_range_item st (by omega) fun h' hit' hs' => ⟨_, rfl, letGo_none (T := "range_iterator") hit' rfl (by decide) ?_⟩
    have g : Got A f Av s (.int (a + i)) (.int (a + i) s.toks) { s with heap := s.heap, toks := s.toks + 1 } := .int .tok hw (Nat.le_refl _) (Nat.lt_succ_self _)
    obtain ⟨_, f', e', w', r'⟩ := g
    refine hQ _ h' _ f' e' w' (Nat.le_succ _) r' ?_ (sameBut_keepB hs')
    have e1 : a + ((i + 1 : Nat) : Int) = a + (i : Int) + 1 := by push_cast; omega
    have e2 : (n : Int) - ((i + 1 : Nat) : Int) = (n : Int) - (i : Int) - 1 := by push_cast; omega
    rw [e1, e2]; exact hit'
  done := fun s f Q E st hQ => by
    rw [rangeL_length] at st
    exact wpAny_pyNext_range_end hh st (by omega) fun h' he' => hQ h' s.toks (Nat.le_refl _) (extBut_keepB he')
  self := fun i s f Q E st hQ => wpAny_pyIter_rangeiter st hQ

/-- over a text of small signs -/
theorem itr_str (hh : A.handled = none) {target : Expr} {I : Addr} {x : Str} {t : Tok} (ok : PyData.strOk x = true) :
    Itr prog w A target Av I [I] (x.cps.toList.map fun c => .str ⟨#[c]⟩) (fun i h _ => h.IsStrIter I "str_ascii_iterator" x t i) where
  objs := fun i h f st b hb => by
    rw [List.mem_singleton.mp hb]
    obtain ⟨o, ho, _, hd⟩ := st
    exact ⟨o, _, ho, hd⟩
  frame := fun i h h' f f' W st e k cl nn => by
    obtain ⟨o, ho, r⟩ := st
    exact ⟨o, exact_of k (nn I (by simp)) ho, r⟩
  item := fun i d s f Q E hd st hw _ hQ => by
    rw [List.getElem?_map] at hd
    obtain ⟨c, hc, rfl⟩ := Option.map_eq_some_iff.mp hd
    refine wpAny_pyNext_ascii_item st (c := c) (by simpa using hc) fun h' hit' hs' => ⟨_, rfl, ?_⟩
    obtain ⟨o, ho, hcl, _⟩ := id hit'
    refine letGo_none (T := "str_ascii_iterator") ho hcl (by decide) ?_
    have okc : PyData.strOk ⟨#[c]⟩ = true := by
      have := strOk_of_mem ok (l := [c]) (fun y hy => by rw [List.mem_singleton.mp hy]; exact List.mem_of_getElem? hc)
      simpa using this
    have g : Got A f Av s (.str ⟨#[c]⟩) (.str ⟨#[c]⟩ s.toks) { s with heap := s.heap, toks := s.toks + 1 } := .str .tok hw (Nat.le_refl _) (Nat.lt_succ_self _) okc
    obtain ⟨_, f', e', w', r'⟩ := g
    exact hQ _ h' _ f' e' w' (Nat.le_succ _) r' hit' (sameBut_keepB hs')
  done := fun s f Q E st hQ => by
    rw [List.length_map, Array.length_toList] at st
    exact wpAny_pyNext_ascii_end hh st (by simp) fun h' he' => hQ h' s.toks (Nat.le_refl _) (extBut_keepB he')
  self := fun i s f Q E st hQ => wpAny_pyIter_striter_ascii st hQ

theorem enumL_get : ∀ (ds : List D) (a : Int) (i : Nat) (d : D), (enumL a ds)[i]? = some d → ∃ x, ds[i]? = some x ∧ d = .tuple [.int (a + i), x]
  | [], a, i, d, h => by simp [enumL] at h
  | x :: ds, a, 0, d, h => by simp [enumL] at h; exact ⟨x, rfl, by rw [← h]; simp⟩
  | x :: ds, a, i + 1, d, h => by
    simp only [enumL, List.getElem?_cons_succ] at h
    obtain ⟨y, h1, h2⟩ := enumL_get ds (a + 1) i d h
    exact ⟨y, by simpa using h1, by rw [h2]; congr 2; congr 1; push_cast; omega⟩
theorem enumL_length : ∀ (ds : List D) (a : Int), (enumL a ds).length = ds.length
  | [], _ => rfl
  | x :: ds, a => by simp [enumL, enumL_length ds]

/-- over enumerate of a list, its tuples unpacked -/
theorem itr_enum (hh : A.handled = none) {elts : List Expr} {k : Nat} {pos : Pos} {I J l : Addr} {its : Array Value} {ds : List D} (hl : ¬ Av l) (hIJ : I ≠ J) :
    Itr prog w A (.Tuple elts k pos) Av I [I, J] (enumL 0 ds) (fun i h f => (∃ old, IsEnum h I J i old) ∧ h.IsListIter J l i ∧ h.IsList l its ∧ RdAll f Av h its.toList ds) where
  objs := fun i h f st b hb => by
    obtain ⟨⟨old, he⟩, ⟨o, ho, _, hd⟩, _⟩ := st
    rcases List.mem_cons.mp hb with rfl | hb
    · exact ⟨_, _, he, rfl⟩
    · rw [List.mem_singleton.mp hb]; exact ⟨o, _, ho, hd⟩
  frame := fun i h h' f f' W st e k cl n => ⟨let ⟨old, he⟩ := st.1; ⟨old, exact_of k (n I (by simp)) he⟩, st.2.1.at fun o e => exact_of k (n J (by simp)) e, isList_keepC k cl hl st.2.2.1, RdAll.keepX k cl e ds st.2.2.2⟩
  item := fun i d s f Q E hd st hw hfs hQ => by
    obtain ⟨x, hx, rfl⟩ := enumL_get ds 0 i d hd
    obtain ⟨⟨old, he⟩, hit, hli, hra⟩ := st
    obtain ⟨v, hv, hr⟩ := hra.get hx
    refine wpAny_pyNext_enum_item he hit hli (x := v) (by simpa using hv) hIJ fun h' ho hit' hT hsz hk => ⟨_, rfl, wpAny_letOwnedTupleGo_enum ho fun h₂ he₂ hs₂ => ?_⟩
    have kB : KeepB [I, J] s.heap h₂ := fun b o n e => hs₂.extBut b o (fun q => n (by simp [q])) (hk b o (fun q => n (by simp [q])) (fun q => n (by simp [q])) e)
    have cl : Clear (· ∈ [I, J]) Av s.heap := clear_fp fun b hb => by
      obtain ⟨o, ho, _, hd⟩ := hit
      rcases List.mem_cons.mp hb with rfl | hb
      · exact ⟨_, _, he, rfl⟩
      · rw [List.mem_singleton.mp hb]; exact ⟨o, _, ho, hd⟩
    have kX : KeepX A (· ∈ [I, J]) s.heap h₂ := kB.keepX
    have hIT : I ≠ s.heap.objs.size := Nat.ne_of_lt (Heap.lt_size he)
    have hT₂ : h₂.get? s.heap.objs.size = some { cls := .type "tuple", data := .seq #[.int i s.toks, v] } := hs₂.extBut _ _ (Ne.symm hIT) hT
    have g : Got A f Av s (.int i) (.int i s.toks) { s with heap := s.heap, toks := s.toks + 1 } := .int .tok hw (Nat.le_refl _) (Nat.lt_succ_self _)
    obtain ⟨_, f', e', w', r'⟩ := g
    refine hQ _ h₂ _ f' e' w' (Nat.le_succ _) ?_ ⟨⟨v, by simpa using he₂⟩, hit'.extBut hs₂.extBut (Ne.symm hIJ), isList_keepC kX cl hl hli, RdAll.keepX kX cl e' ds hra⟩ kB
    refine ⟨_, #[.int i s.toks, v], rfl, ⟨_, hT₂, rfl, 0, rfl⟩, .cons ?_ (.cons (Rd.keepX kX cl e' x hr) .nil)⟩
    rw [Int.zero_add]; exact r'
  done := fun s f Q E st hQ => by
    obtain ⟨⟨old, he⟩, hit, hli, hra⟩ := st
    rw [enumL_length] at he hit
    have hlen := hra.length
    rw [Array.length_toList] at hlen
    refine wpAny_pyNext_enum_end hh he hit hli (by simp [← hlen]) fun h' hx => hQ h' s.toks (Nat.le_refl _) fun b o n e => hx b o (fun q => n (by simp [q])) e
  self := fun i s f Q E st hQ => let ⟨old, he⟩ := st.1; wpAny_pyIter_enum he hQ
end
end Mine
end

section
namespace Mine
open PySem PySem.W PyProof.Rows

section
variable {prog : Program} {w : World} {A : Around} {E : Value → Shared → Prop} {f : TokMap} {Av : Addr → Prop} {s : Shared}
  {tab : Nat → Str} {h₁ : Heap} {mg mb : Str → Option Value} {env : Env} {kinds : List (Str × NameKind)} {ρ : Vw}

/-- no name of the table is one of the compiler's own -/
structure TabOk (tab : Nat → Str) : Prop where
  inj : ∀ i j, tab i = tab j → i = j
  dbg : ∀ i, (tab i == ("__debug__" : Str)) = false
  cld : ∀ i, (tab i == ("__classdict__" : Str)) = false

theorem kindOf_eq (ok : EnvOk env kinds s.heap) (x : Str) : env.kindOf x = kinds.lookup x := by
  unfold Env.kindOf; rw [ok.names]

/-- a variable's value -/
theorem var_sound (T : TabOk tab) (cx : Cx tab h₁ A env kinds ρ f Av s) {i : Nat} {p : Pos} {d : D} (h : ρ i = some d) :
    wpAny (model prog w) A (eval (.Name (tab i) p) env) (Got A f Av s d) E s := by
  obtain ⟨v, hv, hr⟩ := cx.rel i d h
  have fin : Got A f Av s d v s := .same .refl cx.wd (Nat.le_refl _) hr
  refine wpAny_Name ?_ (T.dbg i)
  rcases hv with ⟨hk, m, hn, hm⟩ | ⟨hk, c, hc, hcell⟩
  · exact wpAny_loadName_local cx.ok.kind hk hn hm fin
  · rcases hk with hk | hk
    · exact wpAny_loadName_cell cx.ok.kind hk hc hcell fin
    · exact wpAny_loadName_free cx.ok.kind hk hc hcell fin (T.cld i)

theorem nameB (B : BaseOk h₁ mg mb) (cx : Cx tab h₁ A env kinds ρ f Av s) {x : Str} {p : Pos} {v : Value} {Q : Value → Shared → Prop} (hx : kinds.lookup x = some .globalImplicit)
    (hb : x ∈ (["sum", "len", "min", "max", "range", "enumerate", "list", "ValueError"] : List Str)) (hv : bootBuiltins x = some v) (hn : x ≠ "__name__") (hd : (x == ("__debug__" : Str)) = false) (h : Q v s) :
    wpAny (model prog w) A (eval (.Name x p) env) Q E s := by
  have g : s.heap.Ns env.globals mg := by rw [cx.ok.globals]; exact B.g.keeps cx.si.base
  have b : s.heap.Ns env.builtins mb := by rw [cx.ok.builtins]; exact B.b.keeps cx.si.base
  exact Calls.Name_function_global cx.ok.kind (by rw [kindOf_eq cx.ok]; exact hx) (Calls.loadGlobal_builtin g (B.miss x hb) b ((B.bi x hn).trans hv) h) hd
theorem nameG (B : BaseOk h₁ mg mb) (cx : Cx tab h₁ A env kinds ρ f Av s) {x : Str} {p : Pos} {v : Value} {Q : Value → Shared → Prop} (hx : kinds.lookup x = some .globalImplicit)
    (hv : mg x = some v) (hd : (x == ("__debug__" : Str)) = false) (h : Q v s) :
    wpAny (model prog w) A (eval (.Name x p) env) Q E s := by
  have g : s.heap.Ns env.globals mg := by rw [cx.ok.globals]; exact B.g.keeps cx.si.base
  exact Calls.Name_function_global cx.ok.kind (by rw [kindOf_eq cx.ok]; exact hx) (Calls.loadGlobal_global g hv h) hd

theorem boot_sum' : bootBuiltins "sum" = some (.builtin "sum") := by decide +kernel
theorem boot_len' : bootBuiltins "len" = some (.builtin "len") := by decide +kernel
theorem boot_range' : bootBuiltins "range" = some (.type "range") := by decide +kernel
theorem boot_enum' : bootBuiltins "enumerate" = some (.type "enumerate") := by decide +kernel
theorem boot_list' : bootBuiltins "list" = some (.type "list") := by decide +kernel

/-! stores -/
/-- where a store of x goes -/
noncomputable def WS (env : Env) (x : Str) : Addr → Prop := fun b => (env.kindOf x = some .local ∧ b = env.locals) ∨ (env.kindOf x = some .cell ∧ env.cells.lookup x = some b)

theorem ws_clear {h : Heap} (ok : EnvOk env kinds h) (x : Str) : Clear (WS env x) Av h := fun b o xs n hb e d => by
  rcases hb with ⟨_, rfl⟩ | ⟨hk, hc⟩
  · obtain ⟨m, o', es, ep, ho, hd, _⟩ := ok.ns
    rw [ho] at e; cases e
    rw [hd] at d; cases d
  · obtain ⟨c, v, hc', o', ho, hd⟩ := ok.cells x (.inl hk)
    rw [hc] at hc'; cases hc'
    rw [ho] at e; cases e
    rw [hd] at d; cases d

theorem cell_ne {h : Heap} (ok : EnvOk env kinds h) {x y : Str} {b c : Addr} (hxy : x ≠ y) (hx : env.cells.lookup x = some b) (hy : env.cells.lookup y = some c) : b ≠ c := fun e => by
  subst e
  exact hxy (name_of_addr ok.apart (mem_of_lookup hx) (mem_of_lookup hy))

theorem store_sound {x : Str} {v : Value} {Q : Unit → Shared → Prop} (ok : EnvOk env kinds s.heap) (hk : kinds.lookup x = some .local ∨ kinds.lookup x = some .cell)
    (hQ : ∀ h' tk, s.toks ≤ tk → KeepX A (WS env x) s.heap h' → (∀ b, WS env x b → ∃ o', h'.get? b = some o' ∧ ∀ vs, o'.data ≠ .fields vs) → EnvOk env kinds h' → VarAt env h' x v → (∀ y u, y ≠ x → VarAt env s.heap y u → VarAt env h' y u) → Q () { s with heap := h', toks := tk }) :
    wpAny (model prog w) A (storeName env x v) Q E s := by
  rw [← kindOf_eq ok] at hk
  rcases hk with hk | hk
  · obtain ⟨m, hn⟩ := ok.ns
    refine wpAny_storeName_local hk hn (fun h' hn' hs' => hQ h' _ (Nat.le_succ _) (.of_but fun b o nb e => hs'.extBut b o (fun q => nb (.inl ⟨hk, q⟩)) e) ?_ ?_ ?_ ?_) ?_
    · intro b hb
      rcases hb with ⟨_, rfl⟩ | ⟨q, _⟩
      · obtain ⟨o, es, ep, ho, hd, _⟩ := hn'
        exact ⟨o, ho, fun vs q => by rw [hd] at q; cases q⟩
      · rw [hk] at q; cases q
    · refine ⟨ok.kind, ok.names, ok.globals, ok.builtins, ⟨_, hn'⟩, fun n hnk => ?_, ok.apart⟩
      obtain ⟨c, u, hc, hcell⟩ := ok.cells n hnk
      refine ⟨c, u, hc, hcell.sameBut hs' ?_⟩
      rintro rfl
      obtain ⟨o, ho, hd⟩ := hcell
      obtain ⟨o', _, _, ho', hd', _⟩ := hn
      rw [ho] at ho'; cases ho'
      rw [hd] at hd'; cases hd'
    · exact .inl ⟨hk, _, hn', by simp⟩
    · intro y u hyx hy
      rcases hy with ⟨hky, m', hm', hu⟩ | ⟨hky, c, hc, hcell⟩
      · refine .inl ⟨hky, _, hn', ?_⟩
        rw [if_neg hyx]
        obtain ⟨o, es, ep, ho, hd, _, hf⟩ := hn
        obtain ⟨o', es', ep', ho', hd', _, hf'⟩ := hm'
        rw [ho] at ho'; cases ho'
        rw [hd] at hd'; cases hd'
        rw [← hf y, hf' y]; exact hu
      · refine .inr ⟨hky, c, hc, hcell.sameBut hs' ?_⟩
        rintro rfl
        obtain ⟨o, ho, hd⟩ := hcell
        obtain ⟨o', _, _, ho', hd', _⟩ := hn
        rw [ho] at ho'; cases ho'
        rw [hd] at hd'; cases hd'
    · rw [ok.kind]; rfl
  · obtain ⟨c, u, hc, hcell⟩ := ok.cells x (.inl hk)
    refine wpAny_storeName_cell ok.kind hk hc hcell fun h' hv hs' => hQ h' s.toks (Nat.le_refl _) (.of_but fun b o nb e => hs'.extBut b o (fun q => nb (.inr ⟨hk, by rw [q]; exact hc⟩)) e) ?_ ?_ ?_ ?_
    · intro b hb
      rcases hb with ⟨q, _⟩ | ⟨_, q⟩
      · rw [hk] at q; cases q
      · rw [hc] at q; cases q
        obtain ⟨o, ho, hd⟩ := hv
        exact ⟨o, ho, fun vs q => by rw [hd] at q; cases q⟩
    · refine ⟨ok.kind, ok.names, ok.globals, ok.builtins, ?_, fun n hn => ?_, ok.apart⟩
      · obtain ⟨m, hn⟩ := ok.ns
        refine ⟨m, hn.sameBut hs' ?_⟩
        rintro rfl
        obtain ⟨o, ho, hd⟩ := hcell
        obtain ⟨o', _, _, ho', hd', _⟩ := hn
        rw [ho] at ho'; cases ho'
        rw [hd] at hd'; cases hd'
      · by_cases e : n = x
        · subst e; exact ⟨c, _, hc, hv⟩
        · obtain ⟨c', u', hc', hcell'⟩ := ok.cells n hn
          exact ⟨c', u', hc', hcell'.sameBut hs' (cell_ne ok e hc' hc)⟩
    · exact .inr ⟨.inl hk, c, hc, hv⟩
    · intro y u' hyx hy
      rcases hy with ⟨hky, m', hm', hu⟩ | ⟨hky, c', hc', hcell'⟩
      · refine .inl ⟨hky, m', hm'.sameBut hs' ?_, hu⟩
        rintro rfl
        obtain ⟨o, ho, hd⟩ := hcell
        obtain ⟨o', _, _, ho', hd', _⟩ := hm'
        rw [ho] at ho'; cases ho'
        rw [hd] at hd'; cases hd'
      · exact .inr ⟨hky, c', hc', hcell'.sameBut hs' (cell_ne ok hyx hc' hc)⟩

/-- a store turns the view at one place -/
theorem cx_store (T : TabOk tab) (cx : Cx tab h₁ A env kinds ρ f Av s) {i : Nat} {v : Value} {d : D} (hr : Rd f Av s.heap v d) {h' : Heap} {tk : Nat} (ht : s.toks ≤ tk)
    (k : KeepX A (WS env (tab i)) s.heap h') (hw : ∀ b, WS env (tab i) b → ∃ o', h'.get? b = some o' ∧ ∀ vs, o'.data ≠ .fields vs) (ok : EnvOk env kinds h')
    (hv : VarAt env h' (tab i) v) (ho : ∀ y u, y ≠ tab i → VarAt env s.heap y u → VarAt env h' y u) :
    Cx tab h₁ A env kinds (upd ρ i d) f Av { s with heap := h', toks := tk } := by
  have cl := ws_clear (Av := Av) cx.ok (tab i)
  refine ⟨cx.si.keepX k (fun b o hb e => ?_) hw, ok, cx.lo, cx.ce, fun a ha => ?_, cx.wd.mono ht, fun j dj hj => ?_⟩
  · rcases hb with ⟨_, rfl⟩ | ⟨_, hc⟩
    · rw [cx.lo] at e; cases e
    · rw [cx.ce _ _ hc] at e; cases e
  · obtain ⟨o, e⟩ := cx.av a ha
    by_cases q : WS env (tab i) a
    · obtain ⟨o', e', _⟩ := hw a q; exact ⟨o', e'⟩
    · obtain ⟨o', e', _⟩ := k a o q e; exact ⟨o', e'⟩
  · unfold upd at hj
    by_cases q : j = i
    · subst q
      rw [if_pos rfl] at hj
      cases hj
      exact ⟨v, hv, Rd.keepX k cl (.refl f) d hr⟩
    · rw [if_neg q] at hj
      obtain ⟨u, hu, hru⟩ := cx.rel j dj hj
      exact ⟨u, ho _ _ (fun e => q (T.inj _ _ e)) hu, Rd.keepX k cl (.refl f) dj hru⟩
end
end Mine
end

section
namespace Mine
open PySem PySem.W PyProof.Rows

/-! the cells of a comprehension's block -/
theorem cellsFrom_lookup_other : ∀ (names : List (Str × NameKind)) (k : Nat) (acc : List (Str × Addr)) (n : Str), (∀ x ∈ names, x.1 = n → x.2 ≠ .cell) → (cellsFrom k names acc).lookup n = acc.lookup n
  | [], _, _, _, _ => rfl
  | (m, kd) :: r, k, acc, n, h => by
    unfold cellsFrom
    have hr : ∀ x ∈ r, x.1 = n → x.2 ≠ .cell := fun x hx => h x (List.mem_cons_of_mem _ hx)
    split
    · rename_i hk
      have hmn : n ≠ m := fun e => h (m, kd) (List.mem_cons_self ..) e.symm (by simpa using hk)
      rw [cellsFrom_lookup_other r _ _ n hr, List.lookup_cons]
      have : (n == m) = false := by simpa using hmn
      rw [this]
    · exact cellsFrom_lookup_other r _ _ n hr

theorem nodup_tail_ne {r : List (Str × NameKind)} {m : Str} {kd : NameKind} (h : (((m, kd) :: r).map (·.1)).Nodup) : ∀ x ∈ r, x.1 ≠ m := fun x hx e => by
  rw [List.map_cons, List.nodup_cons] at h
  exact h.1 (List.mem_map.mpr ⟨x, hx, e⟩)

theorem cellsFrom_lookup_own : ∀ (names : List (Str × NameKind)) (h : Heap) (acc : List (Str × Addr)) (n : Str), (names.map (·.1)).Nodup → names.lookup n = some .cell →
    ∃ c, (cellsFrom h.objs.size names acc).lookup n = some c ∧ h.objs.size ≤ c ∧ (pushCells h names).IsCell c none
  | [], _, _, _, _, e => by simp at e
  | (m, kd) :: r, h, acc, n, hn, e => by
    have hn' : (r.map (·.1)).Nodup := by rw [List.map_cons, List.nodup_cons] at hn; exact hn.2
    unfold cellsFrom pushCells
    rw [List.lookup_cons] at e
    cases hb : n == m with
    | true =>
      rw [hb] at e
      have hm : n = m := by simpa using hb
      cases e
      rw [if_pos (by rfl), if_pos (by rfl)]
      refine ⟨h.objs.size, ?_, Nat.le_refl _, ?_⟩
      · rw [cellsFrom_lookup_other r _ _ n (fun x hx q => absurd (q.trans hm) (nodup_tail_ne hn x hx)), List.lookup_cons, hb]
      · exact ⟨_, pushCells_keeps r _ _ _ (Heap.get?_push_size _ rfl), rfl⟩
    | false =>
      rw [hb] at e
      split
      · obtain ⟨c, h1, h2, h3⟩ := cellsFrom_lookup_own r (h.push { cls := .type "cell", data := .cell none }) ((m, h.objs.size) :: acc) n hn' e
        rw [Heap.size_push] at h1 h2
        exact ⟨c, h1, by omega, h3⟩
      · exact cellsFrom_lookup_own r h acc n hn' e

theorem cellsFrom_mem : ∀ (names : List (Str × NameKind)) (k : Nat) (acc : List (Str × Addr)) (n : Str) (c : Addr), (n, c) ∈ cellsFrom k names acc → (n, c) ∈ acc ∨ k ≤ c
  | [], _, _, _, _, h => .inl h
  | (m, kd) :: r, k, acc, n, c, h => by
    unfold cellsFrom at h
    split at h
    · rcases cellsFrom_mem r _ _ n c h with h | h
      · rcases List.mem_cons.mp h with e | h
        · cases e; exact .inr (Nat.le_refl _)
        · exact .inl h
      · exact .inr (by omega)
    · exact cellsFrom_mem r _ _ n c h

theorem cellsFrom_apart : ∀ (names : List (Str × NameKind)) (k : Nat) (acc : List (Str × Addr)), acc.Pairwise (fun x y => x.2 ≠ y.2) → (∀ x ∈ acc, x.2 < k) → (cellsFrom k names acc).Pairwise (fun x y => x.2 ≠ y.2)
  | [], _, _, h, _ => h
  | (m, kd) :: r, k, acc, h, hl => by
    unfold cellsFrom
    split
    · refine cellsFrom_apart r _ _ (List.pairwise_cons.mpr ⟨fun x hx e => ?_, h⟩) fun x hx => ?_
      · have h1 := hl x hx
        have e' : k = x.2 := e
        rw [← e'] at h1
        exact Nat.lt_irrefl _ h1
      · rcases List.mem_cons.mp hx with rfl | hx
        · exact Nat.lt_succ_self _
        · exact Nat.lt_succ_of_lt (hl x hx)
    · exact cellsFrom_apart r _ _ h hl

/-! what a block takes from outside -/
noncomputable def closL (env : Env) : List (Str × NameKind) → List (Str × Addr) → List (Str × Addr)
  | [], acc => acc
  | (n, k) :: r, acc => if k == .free then closL env r ((n, (env.cells.lookup n).getD 0) :: acc) else closL env r acc

theorem closureFor_eq {scope : Scope} {env : Env} (h : ∀ x ∈ scope.names, x.2 = .free → ∃ c, env.cells.lookup x.1 = some c) : closureFor scope env = pure (closL env scope.names []) := by
  have key : ∀ (names : List (Str × NameKind)) (acc : List (Str × Addr)), (∀ x ∈ names, x.2 = .free → ∃ c, env.cells.lookup x.1 = some c) →
      (forIn names acc (fun x cs => if (x.2 == NameKind.free) = true then do let c ← cellOf env x.1; pure (ForInStep.yield ((x.1, c) :: cs)) else pure (ForInStep.yield cs)) : Sem (List (Str × Addr))) = pure (closL env names acc) := by
    intro names
    induction names with
    | nil => intro acc _; rfl
    | cons x r ih =>
      intro acc hx
      obtain ⟨n, k⟩ := x
      rw [List.forIn_cons]
      unfold closL
      cases hk : k == NameKind.free with
      | true =>
        obtain ⟨c, hc⟩ := hx (n, k) (List.mem_cons_self ..) (by simpa using hk)
        have hco : cellOf env n = pure c := by unfold cellOf; rw [hc]
        simp only [hk, if_true, hco, pure_bind]
        rw [ih _ fun y hy => hx y (List.mem_cons_of_mem _ hy)]
        simp only [hc, Option.getD_some]
      | false =>
        simp only [hk, Bool.false_eq_true, if_false, pure_bind]
        exact ih _ fun y hy => hx y (List.mem_cons_of_mem _ hy)
  have := key scope.names [] h
  have e : closureFor scope env = (forIn scope.names ([] : List (Str × Addr)) (fun x cs => if (x.2 == NameKind.free) = true then do let c ← cellOf env x.1; pure (ForInStep.yield ((x.1, c) :: cs)) else pure (ForInStep.yield cs)) : Sem (List (Str × Addr))) := by
    unfold closureFor
    refine (bind_pure _).trans ?_
    congr 1
  rw [e, this]

theorem closL_lookup_other {env : Env} : ∀ (names : List (Str × NameKind)) (acc : List (Str × Addr)) (n : Str), (∀ x ∈ names, x.1 = n → x.2 ≠ .free) → (closL env names acc).lookup n = acc.lookup n
  | [], _, _, _ => rfl
  | (m, kd) :: r, acc, n, h => by
    unfold closL
    have hr : ∀ x ∈ r, x.1 = n → x.2 ≠ .free := fun x hx => h x (List.mem_cons_of_mem _ hx)
    split
    · rename_i hk
      have hmn : n ≠ m := fun e => h (m, kd) (List.mem_cons_self ..) e.symm (by simpa using hk)
      rw [closL_lookup_other r _ n hr, List.lookup_cons]
      have : (n == m) = false := by simpa using hmn
      rw [this]
    · exact closL_lookup_other r _ n hr
theorem closL_lookup_free {env : Env} : ∀ (names : List (Str × NameKind)) (acc : List (Str × Addr)) (n : Str), (names.map (·.1)).Nodup → names.lookup n = some .free → (closL env names acc).lookup n = some ((env.cells.lookup n).getD 0)
  | [], _, _, _, e => by simp at e
  | (m, kd) :: r, acc, n, hn, e => by
    have hn' : (r.map (·.1)).Nodup := by rw [List.map_cons, List.nodup_cons] at hn; exact hn.2
    unfold closL
    rw [List.lookup_cons] at e
    cases hb : n == m with
    | true =>
      rw [hb] at e
      have hm : n = m := by simpa using hb
      cases e
      rw [if_pos (by rfl), closL_lookup_other r _ n (fun x hx q => absurd (q.trans hm) (nodup_tail_ne hn x hx)), List.lookup_cons, hb, hm]
    | false =>
      rw [hb] at e
      split
      · exact closL_lookup_free r _ n hn' e
      · exact closL_lookup_free r _ n hn' e
theorem closL_mem {env : Env} : ∀ (names : List (Str × NameKind)) (acc : List (Str × Addr)) (n : Str) (c : Addr), (n, c) ∈ closL env names acc → (n, c) ∈ acc ∨ ((n, .free) ∈ names ∧ c = (env.cells.lookup n).getD 0)
  | [], _, _, _, h => .inl h
  | (m, kd) :: r, acc, n, c, h => by
    unfold closL at h
    split at h
    · rename_i hk
      have hk' : kd = .free := by simpa using hk
      subst hk'
      rcases closL_mem r _ n c h with h | ⟨h1, h2⟩
      · rcases List.mem_cons.mp h with e | h
        · cases e; exact .inr ⟨List.mem_cons_self .., rfl⟩
        · exact .inl h
      · exact .inr ⟨List.mem_cons_of_mem _ h1, h2⟩
    · rcases closL_mem r _ n c h with h | ⟨h1, h2⟩
      · exact .inl h
      · exact .inr ⟨List.mem_cons_of_mem _ h1, h2⟩
theorem closL_apart {env : Env} (ap : ∀ n n' c, env.cells.lookup n = some c → env.cells.lookup n' = some c → n = n') : ∀ (names : List (Str × NameKind)) (acc : List (Str × Addr)), (names.map (·.1)).Nodup →
    (∀ x ∈ names, x.2 = .free → ∃ c, env.cells.lookup x.1 = some c) → acc.Pairwise (fun x y => x.2 ≠ y.2) → (∀ x ∈ acc, env.cells.lookup x.1 = some x.2 ∧ x.1 ∉ names.map (·.1)) → (closL env names acc).Pairwise (fun x y => x.2 ≠ y.2)
  | [], _, _, _, h, _ => h
  | (m, kd) :: r, acc, hn, hf, h, ha => by
    have hn' := hn
    rw [List.map_cons, List.nodup_cons] at hn'
    have hf' : ∀ x ∈ r, x.2 = .free → ∃ c, env.cells.lookup x.1 = some c := fun x hx => hf x (List.mem_cons_of_mem _ hx)
    unfold closL
    split
    · rename_i hk
      obtain ⟨c, hc⟩ := hf (m, kd) (List.mem_cons_self ..) (by simpa using hk)
      have hc' : env.cells.lookup m = some c := hc
      rw [hc']
      refine closL_apart ap r _ hn'.2 hf' (List.pairwise_cons.mpr ⟨fun x hx e => ?_, h⟩) fun x hx => ?_
      · have := (ha x hx)
        have e' : c = x.2 := e
        have := ap m x.1 c hc' (by rw [e']; exact this.1)
        exact (ha x hx).2 (by rw [← this]; exact List.mem_cons_self ..)
      · rcases List.mem_cons.mp hx with rfl | hx
        · exact ⟨hc', hn'.1⟩
        · exact ⟨(ha x hx).1, fun q => (ha x hx).2 (List.mem_cons_of_mem _ q)⟩
    · exact closL_apart ap r _ hn'.2 hf' h fun x hx => ⟨(ha x hx).1, fun q => (ha x hx).2 (List.mem_cons_of_mem _ q)⟩

/-- the kinds within -/
noncomputable def innerKinds (kinds : List (Str × NameKind)) (sc : Scope) : List (Str × NameKind) :=
  sc.names.map fun x => (x.1, if (x.2 == .free && kinds.lookup x.1 == some .cell) then .cell else x.2)
noncomputable def wfScope (kinds : List (Str × NameKind)) (sc : Scope) : Bool :=
  decide (sc.kind = .function) && decide ((sc.names.map (·.1)).Nodup) &&
  sc.names.all fun x => x.2 != .free || kinds.lookup x.1 == some .cell || kinds.lookup x.1 == some .free

theorem lookup_mem {α : Type} : ∀ {l : List (Str × α)} {n : Str} {k : α}, (l.map (·.1)).Nodup → (n, k) ∈ l → l.lookup n = some k
  | (m, kd) :: r, n, k, hn, h => by
    rw [List.map_cons, List.nodup_cons] at hn
    rw [List.lookup_cons]
    rcases List.mem_cons.mp h with e | h
    · cases e; simp
    · have : (n == m) = false := by
        simp only [beq_eq_false_iff_ne]
        intro q
        exact hn.1 (List.mem_map.mpr ⟨_, h, q⟩)
      rw [this]
      exact lookup_mem hn.2 h

theorem inner_lookup (kinds : List (Str × NameKind)) (n : Str) : ∀ (l : List (Str × NameKind)),
    (l.map fun x => (x.1, if (x.2 == .free && kinds.lookup x.1 == some .cell) then NameKind.cell else x.2)).lookup n = (l.lookup n).map fun k => if (k == .free && kinds.lookup n == some .cell) then .cell else k
  | [] => rfl
  | (m, kd) :: r => by
    have ih := inner_lookup kinds n r
    rw [List.map_cons, List.lookup_cons, List.lookup_cons]
    cases hb : n == m with
    | true =>
      have hm : n = m := by simpa using hb
      subst hm
      rfl
    | false => exact ih
theorem relabel_names {kinds : List (Str × NameKind)} {env : Env} (sc : Scope) (hk : env.scope.kind = .function) (hn : env.scope.names = kinds) : (relabel sc env).names = innerKinds kinds sc := by
  unfold relabel innerKinds
  dsimp only
  apply List.map_congr_left
  intro x _
  obtain ⟨n, k⟩ := x
  have : env.kindOf n = kinds.lookup n := by unfold Env.kindOf; rw [hn]
  rw [hk, this]
  cases (k == NameKind.free) <;> cases (kinds.lookup n == some NameKind.cell) <;> rfl

/-- the block's frame -/
theorem wpAny_blockEnv {M : Model} {A : Around} {E : Value → Shared → Prop} {s : Shared} {sc : Scope} {env : Env} {cl : List (Str × Addr)} {Q : Env → Shared → Prop}
    (hQ : Q { scope := sc, locals := s.heap.objs.size, globals := env.globals, cells := cellsFrom (s.heap.objs.size + 1) sc.names cl, qual := env.qual, func := none, code := env.code, frame := env.frame, builtins := env.builtins }
      { s with heap := pushCells (s.heap.push { cls := .type "dict", data := .dict #[] }) sc.names }) :
    wpAny M A (newFunctionEnv sc env.globals cl [] env.qual none .none (some env)) Q E s := by
  simp only [newFunctionEnv, Option.isSome_some, if_true]
  refine wpAny_bind (wpAny_alloc ?_)
  refine wpAny_bind (wpAny_layCells _ (fun name kind cells => by cases hkc : kind == NameKind.cell <;> simp [hkc]) _ _ _ _ ?_)
  rw [show ({ s with heap := s.heap.push { cls := .type "dict", data := .dict #[] } } : Shared).heap.objs.size = s.heap.objs.size + 1 from Heap.size_push ..]
  first
    | exact wpAny_pure hQ
    | exact wpAny_bind (wpAny_pure hQ)
    | exact wpAny_bind (wpAny_pure (wpAny_pure hQ))
end Mine
end

section
namespace Mine
open PySem PySem.W PyProof.Rows

noncomputable abbrev testsOf (ifs : List Expr) (env : Env) : Sem Bool := forIn ifs true fun c r => if r = true then do let ok ← isTrue c env (eval c env); pure (ForInStep.yield ok) else pure (ForInStep.yield r)

/-- what a clause's turn does behind its tests: the last clause -/
noncomputable def actLast (elt : Expr) (acc : Value) (env : Env) : Sem Unit := eval elt env >>= fun y => call (.builtin "list.append") [acc, y] >>= fun _ => pure ()
noncomputable def actMore (e iter : Expr) (depth : Nat) (acc : Value) (env : Env) : Sem Unit := eval iter env >>= fun x => standAt iter.pos >>= fun _ => foldedSetIterable iter env x >>= fun x => holding [x] (pyIter x) >>= fun it =>
  runOwn (.compStart e (depth + 1) it acc env) env >>= fun _ => pure ()

noncomputable def turnOf (e target iter : Expr) (ifs : List Expr) (act : Sem Unit) (depth : Nat) (it acc : Value) (env : Env) : Sem Fin := standAt iter.pos >>= fun _ => pyNext it >>= fun r => match r with
      | none => pure (.done .next)
      | some v => letOwnedTupleGo target it v >>= fun _ => assign target env v >>= fun _ => testsOf ifs env >>= fun ok =>
        if ok = true then act >>= fun _ => again (.compLoop e depth it acc env)
        else again (.compLoop e depth it acc env)

theorem compTurn_last {elt : Expr} {gens : List Comprehension} {sc : Scope} {pos : Pos} {depth : Nat} {it acc : Value} {env : Env} {target iter : Expr} {ifs : List Expr} (hg : gens[depth]? = some ⟨target, iter, ifs, 0⟩) (hg' : gens[depth + 1]? = none) :
    compTurn (.ListComp elt gens sc pos) depth it acc env = turnOf (.ListComp elt gens sc pos) target iter ifs (actLast elt acc env) depth it acc env := by
  unfold compTurn
  simp only [hg, hg']
  rfl
theorem compTurn_more {elt : Expr} {gens : List Comprehension} {sc : Scope} {pos : Pos} {depth : Nat} {it acc : Value} {env : Env} {target iter target' iter' : Expr} {ifs ifs' : List Expr} (hg : gens[depth]? = some ⟨target, iter, ifs, 0⟩)
    (hg' : gens[depth + 1]? = some ⟨target', iter', ifs', 0⟩) :
    compTurn (.ListComp elt gens sc pos) depth it acc env = turnOf (.ListComp elt gens sc pos) target iter ifs (actMore (.ListComp elt gens sc pos) iter' depth acc env) depth it acc env := by
  unfold compTurn
  simp only [hg, hg']
  unfold turnOf actMore
  simp only [bind_assoc, pure_bind]
  rfl

section
variable {prog : Program} {w : World} {A : Around} {E : Value → Shared → Prop} {R : Result → Shared → Prop} {s : Shared}

theorem codeAny_turns {e target iter : Expr} {ifs : List Expr} {act : Sem Unit} {depth : Nat} {it acc : Value} {env : Env} (hq : ∀ it, compTurn e depth it acc env = turnOf e target iter ifs act depth it acc env)
    (hf : (Code.compLoop e depth it acc env).isFrame = false) (hquiet : (Code.compLoop e depth it acc env).quiet = true) (hA : A.under (.compLoop e depth it acc env) = A) (I : Nat → Shared → Prop)
    (turn : ∀ n s, I n s → ∀ E', wpAny (model prog w) A (pyNext it) (fun r s₁ => match r with
      | none => R (.ok .next) s₁
      | some v => wpAny (model prog w) A (letOwnedTupleGo target it v) (fun _ s₂ => wpAny (model prog w) A (assign target env v) (fun _ s₃ =>
          wpAny (model prog w) A (testsOf ifs env) (fun ok s₄ =>
            if ok = true then wpAny (model prog w) A act (fun _ s₅ => ∃ m, m < n ∧ I m s₅) E' s₄
            else ∃ m, m < n ∧ I m s₄) E' s₃) E' s₂) E' s₁) E' s)
    (n : Nat) (h : I n s) : codeAny (model prog w) A (.compLoop e depth it acc env) R s := by
  refine codeAny_loop hquiet I (fun n s hI => ?_) n h
  rw [hA]
  show wpAny _ A (if (Code.compLoop e depth it acc env).isFrame then (compTurn e depth it acc env).onRaise (leaving env) else (compTurn e depth it acc env).onRaise (fun x => do noteFrame x env; theTreesLotGoes x)) _ _ s
  rw [hf]
  simp only [Bool.false_eq_true, if_false]
  refine wpAny_noted ?_
  rw [hq]
  unfold turnOf
  refine wpAny_bind (wpAny_standAt (wpAny_bind (wpAny_mono (turn n s hI _) (fun r s₁ h₁ => ?_) fun _ _ h' => h')))
  cases r with
  | none => exact wpAny_pure h₁
  | some v =>
    refine wpAny_bind (wpAny_mono h₁ (fun _ s₂ h₂ => ?_) fun _ _ h' => h')
    refine wpAny_bind (wpAny_mono h₂ (fun _ s₃ h₃ => wpAny_bind (wpAny_mono h₃ (fun ok s₄ h₄ => ?_) fun _ _ h' => h')) fun _ _ h' => h')
    cases ok with
    | false => exact wpAny_pure ⟨rfl, h₄⟩
    | true => exact wpAny_bind (wpAny_mono h₄ (fun _ s₅ h₅ => wpAny_pure ⟨rfl, h₅⟩) fun _ _ h' => h')

theorem codeAny_start {elt : Expr} {gens : List Comprehension} {sc : Scope} {pos : Pos} {depth : Nat} {it acc : Value} {env : Env} {g : Comprehension} (hg : gens[depth]? = some g) (ha : g.is_async = 0)
    (h0 : codeAny (model prog w) A (.compLoop (.ListComp elt gens sc pos) depth it acc env) R s)
    (h : ∀ E', wpAny (model prog w) A (pyIter it) (fun it' s' => codeAny (model prog w) A (.compLoop (.ListComp elt gens sc pos) depth it' acc env) R s') E' s)
    (hf : (Code.compStart (.ListComp elt gens sc pos) depth it acc env).isFrame = false) (hA : A.under (.compStart (.ListComp elt gens sc pos) depth it acc env) = A) (hquiet : ∀ it', (Code.compLoop (.ListComp elt gens sc pos) depth it' acc env).quiet = true) :
    codeAny (model prog w) A (.compStart (.ListComp elt gens sc pos) depth it acc env) R s := by
  refine codeAny_of_tree ?_
  rw [hA]
  show wpAny _ A (if (Code.compStart (.ListComp elt gens sc pos) depth it acc env).isFrame then (compStart (.ListComp elt gens sc pos) depth it acc env).onRaise (leaving env) else (compStart (.ListComp elt gens sc pos) depth it acc env).onRaise (fun x => do noteFrame x env; standAt theWindowsPlace)) _ _ s
  rw [hf]
  simp only [Bool.false_eq_true, if_false]
  refine wpAny_notedAt ?_
  unfold compStart
  have hc : (clausesOf (.ListComp elt gens sc pos))[depth]? = some g := hg
  simp only [hc, Option.elim, ha]
  refine wpAny_bind (wpAny_askSetting (wpAny_ite ?_))
  split
  · exact wpAny_pure ⟨hquiet _, h0⟩
  · exact wpAny_bind (wpAny_rule (wpAny_bind (wpAny_standAt (wpAny_bind (wpAny_mono (h _) (fun it' s' h' => wpAny_pure ⟨hquiet _, h'⟩) fun _ _ x => x)))))
end
end Mine
end

section
namespace Mine
open PySem PySem.W PyProof.Rows

section
variable {prog : Program} {w : World} {A : Around} {E : Value → Shared → Prop} {f f' : TokMap} {Av : Addr → Prop} {s : Shared}
  {tab : Nat → Str} {h₁ : Heap} {env : Env} {kinds : List (Str × NameKind)} {ρ ρ' : Vw}

theorem Cx.view (cx : Cx tab h₁ A env kinds ρ f Av s) (h : ∀ i d, ρ' i = some d → ρ i = some d) : Cx tab h₁ A env kinds ρ' f Av s :=
  ⟨cx.si, cx.ok, cx.lo, cx.ce, cx.av, cx.wd, fun i d e => cx.rel i d (h i d e)⟩

/-- what W names is an iterator's, or a list that is being filled -/
noncomputable def WGood (h₁ : Heap) (Av W : Addr → Prop) (h h' : Heap) : Prop := ∀ b, W b → h₁.get? b = none ∧
  (((∃ o vs, h.get? b = some o ∧ o.data = .fields vs) ∧ ¬ Av b) ∨
   (Av b ∧ (∃ o xs n, h.get? b = some o ∧ o.cls = .type "list" ∧ o.data = .seq xs n) ∧ ∃ o' xs n, h'.get? b = some o' ∧ o'.cls = .type "list" ∧ o'.data = .seq xs n))

theorem WGood.clear {W : Addr → Prop} {h h' : Heap} (x : WGood h₁ Av W h h') : Clear W Av h := fun b o xs n hb e d => by
  rcases (x b hb).2 with ⟨⟨o', vs, e', d'⟩, _⟩ | ⟨ha, ⟨o', xs', n', e', c', d'⟩, _⟩
  · rw [e] at e'; cases e'; rw [d] at d'; cases d'
  · rw [e] at e'; cases e'; exact ⟨c', ha⟩
theorem WGood.notDict {W : Addr → Prop} {h h' : Heap} (x : WGood h₁ Av W h h') {a : Addr} {m : Str → Option Value} (hn : h.Ns a m) : ¬ W a := fun q => by
  obtain ⟨o, es, ep, ho, hd, _⟩ := hn
  rcases (x a q).2 with ⟨⟨o', vs, e', d'⟩, _⟩ | ⟨ha, ⟨o', xs', n', e', c', d'⟩, _⟩
  · rw [ho] at e'; cases e'; rw [hd] at d'; cases d'
  · rw [ho] at e'; cases e'; rw [hd] at d'; cases d'
theorem WGood.notCell {W : Addr → Prop} {h h' : Heap} (x : WGood h₁ Av W h h') {a : Addr} {v : Option Value} (hn : h.IsCell a v) : ¬ W a := fun q => by
  obtain ⟨o, ho, hd⟩ := hn
  rcases (x a q).2 with ⟨⟨o', vs, e', d'⟩, _⟩ | ⟨ha, ⟨o', xs', n', e', c', d'⟩, _⟩
  · rw [ho] at e'; cases e'; rw [hd] at d'; cases d'
  · rw [ho] at e'; cases e'; rw [hd] at d'; cases d'

theorem SI.keepG {W : Addr → Prop} {h h' : Heap} (x : SI h₁ A h) (k : KeepX A W h h') (g : WGood h₁ Av W h h') : SI h₁ A h' := by
  obtain ⟨fr, hf, hF⟩ := x.fr
  refine ⟨fun b o e => ?_, fr, hf, ?_⟩
  · have nW : ¬ W b := fun q => by rw [(g b q).1] at e; cases e
    obtain ⟨o', e', q, _⟩ := k b o nW (x.base b o e)
    rw [q (x.notFS e)] at e'; exact e'
  · clear hf
    induction fr with
    | nil => trivial
    | cons env r ih =>
      obtain ⟨hk, ⟨L, o, hf, hn', ho, hd⟩, hr⟩ := hF
      refine ⟨hk, ?_, ih hr⟩
      by_cases q : W L
      · rcases (g L q).2 with ⟨⟨o', vs, e', d'⟩, _⟩ | ⟨_, _, o', xs, n, e', _, d'⟩
        · rw [ho] at e'; cases e'; exact absurd d' (hd vs)
        · exact ⟨L, o', hf, hn', e', fun vs z => by rw [d'] at z; cases z⟩
      · obtain ⟨o', e', _, d'⟩ := k.data q ho
        exact ⟨L, o', hf, hn', e', fun vs => by rw [d']; exact hd vs⟩

theorem EnvOk.keepG {W : Addr → Prop} {h h' : Heap} (x : EnvOk env kinds h) (k : KeepX A W h h') (g : WGood h₁ Av W h h') : EnvOk env kinds h' :=
  ⟨x.kind, x.names, x.globals, x.builtins, let ⟨m, a⟩ := x.ns; ⟨m, Heap.Ns.keepX a k (g.notDict a)⟩, fun n e => let ⟨c, v, a, b⟩ := x.cells n e; ⟨c, v, a, Heap.IsCell.keepX b k (g.notCell b)⟩, x.apart⟩
theorem VarAt.keepG {W : Addr → Prop} {h h' : Heap} {x : Str} {v : Value} (q : VarAt env h x v) (k : KeepX A W h h') (g : WGood h₁ Av W h h') : VarAt env h' x v :=
  q.imp (fun ⟨a, m, b, c⟩ => ⟨a, m, Heap.Ns.keepX b k (g.notDict b), c⟩) fun ⟨a, c, b, d⟩ => ⟨a, c, b, Heap.IsCell.keepX d k (g.notCell d)⟩

theorem Cx.keepG {W : Addr → Prop} {h' : Heap} {tk : Nat} (cx : Cx tab h₁ A env kinds ρ f Av s) (k : KeepX A W s.heap h') (g : WGood h₁ Av W s.heap h') (e : Ext f f') (wd : Wd f' tk) :
    Cx tab h₁ A env kinds ρ f' Av { s with heap := h', toks := tk } :=
  ⟨cx.si.keepG k g, cx.ok.keepG k g, cx.lo, cx.ce, fun a ha => by
      obtain ⟨o, eo⟩ := cx.av a ha
      by_cases q : W a
      · rcases (g a q).2 with ⟨_, n⟩ | ⟨_, _, o', _, _, e', _⟩
        · exact absurd ha n
        · exact ⟨o', e'⟩
      · obtain ⟨o', e', _⟩ := k a o q eo; exact ⟨o', e'⟩,
    wd, fun i d hi => let ⟨v, a, b⟩ := cx.rel i d hi; ⟨v, a.keepG k g, Rd.keepX k g.clear e d b⟩⟩

/-! targets -/
noncomputable def Tgt.is : Tgt → List Nat
  | .one i _ => [i]
  | .tup is _ => is.map (·.1)
noncomputable def WT (tab : Nat → Str) (env : Env) (is : List Nat) : Addr → Prop := fun b => ∃ i ∈ is, WS env (tab i) b
noncomputable def storable (kinds : List (Str × NameKind)) (x : Str) : Bool := kinds.lookup x == some .local || kinds.lookup x == some .cell
theorem storable_or {x : Str} (h : storable kinds x = true) : kinds.lookup x = some .local ∨ kinds.lookup x = some .cell := by
  unfold storable at h
  rw [Bool.or_eq_true] at h
  exact h.imp (fun q => by simpa using q) fun q => by simpa using q

/-- one name is stored -/
theorem bind_sound (T : TabOk tab) (cx : Cx tab h₁ A env kinds ρ f Av s) {i : Nat} {v : Value} {d : D} (hr : Rd f Av s.heap v d) (hk : storable kinds (tab i) = true) {Q : Unit → Shared → Prop}
    (hQ : ∀ h' tk, s.toks ≤ tk → KeepX A (WS env (tab i)) s.heap h' → Clear (WS env (tab i)) Av s.heap → Cx tab h₁ A env kinds (upd ρ i d) f Av { s with heap := h', toks := tk } → Q () { s with heap := h', toks := tk }) :
    wpAny (model prog w) A (storeName env (tab i) v) Q E s :=
  store_sound cx.ok (storable_or hk) fun h' tk ht k hw ok hv ho => hQ h' tk ht k (ws_clear cx.ok _) (cx_store T cx hr ht k hw ok hv ho)

theorem draw_list {it l : Addr} {items : Array Value} (hne : l ≠ it) : ∀ (n i : Nat) (s : Shared) (Q : List Value → Shared → Prop), s.heap.IsListIter it l i → s.heap.IsList l items → i + n ≤ items.size →
    (∀ h', h'.IsListIter it l (i + n) → Heap.SameBut it s.heap h' → Q ((items.toList.drop i).take n) { s with heap := h' }) → wpAny (model prog w) A (draw (.ref it) n) Q E s
  | 0, i, s, Q, hit, _, _, hQ => by
    show wpAny _ _ (pure []) Q E s
    exact wpAny_pure (by simpa using hQ s.heap hit (Heap.SameBut.refl ..))
  | n + 1, i, s, Q, hit, ht, hle, hQ => by
    have hlt : i < items.size := by omega
    show wpAny _ _ (pyNext (.ref it) >>= _) Q E s
    refine wpAny_bind (wpAny_pyNext_list_item hit ht (x := items[i]) (by simp [hlt]) fun h₁ hit₁ hs₁ => ?_)
    refine wpAny_bind (wpAny_holding (draw_list hne n (i + 1) _ _ hit₁ (ht.extBut hs₁.extBut hne) (by omega) fun h₂ hit₂ hs₂ => wpAny_pure ?_))
    have hd : items.toList.drop i = items[i] :: items.toList.drop (i + 1) := by simp [List.drop_eq_getElem_cons, hlt]
    have := hQ h₂ (by rw [show i + (n + 1) = i + 1 + n by omega]; exact hit₂) (hs₁.trans hs₂)
    rw [hd, List.take_succ_cons] at this
    exact this

theorem unpackItems_list {l : Addr} {items : Array Value} {Q : List Value → Shared → Prop} (hh : A.handled = none) (hl : s.heap.IsList l items)
    (hQ : ∀ h', Heap.ExtBut s.heap.objs.size s.heap h' → Q items.toList { s with heap := h' }) : wpAny (model prog w) A (unpackItems (.ref l) items.size none) Q E s := by
  have hlt : l ≠ s.heap.objs.size := by obtain ⟨o, ho, _⟩ := hl; exact Nat.ne_of_lt (Heap.lt_size ho)
  unfold unpackItems
  refine wpAny_bind ?_
  unfold notIterableAtAll
  refine wpAny_bind (wpAny_specialOf hl.typeIs slot_list_iter.lookup ?_)
  refine wpAny_pure ?_
  simp only [Bool.false_eq_true, if_false]
  refine wpAny_bind (wpAny_holding (wpAny_pyIter_list hl ?_))
  refine wpAny_bind (wpAny_holding (draw_list hlt items.size 0 _ _ ⟨_, Heap.get?_push_size _ rfl, rfl, rfl⟩ (hl.push _) (by omega) fun h₁ hit₁ hs₁ => ?_))
  have hall : List.take items.size (List.drop 0 items.toList) = items.toList := by
    rw [List.drop_zero]; exact List.take_of_length_le (by simp)
  rw [hall]
  have hlen : ¬ items.toList.length < items.size := by simp
  rw [if_neg hlen]
  refine wpAny_bind (wpAny_holding (wpAny_pyNext_list_end hh (by simpa using hit₁) ((hl.push _).extBut hs₁.extBut hlt) (by simp) fun h₂ he₂ => ?_))
  simp only [Option.isSome_none, Bool.false_eq_true, if_false]
  exact wpAny_pure (hQ h₂ fun b o hb e => he₂ b o hb (hs₁.extBut b o hb (Heap.get?_push_of_some _ e)))

theorem WT.mono {is js : List Nat} (h : ∀ i ∈ is, i ∈ js) : ∀ b, WT tab env is b → WT tab env js b := fun _ ⟨i, hi, q⟩ => ⟨i, h i hi, q⟩

theorem ws_clearT {h : Heap} (ok : EnvOk env kinds h) (is : List Nat) : Clear (WT tab env is) Av h := fun b o xs n ⟨i, _, q⟩ e d => ws_clear ok (tab i) b o xs n q e d

theorem assignAll_sound (T : TabOk tab) : ∀ (is : List (Nat × Pos)) (ds : List D) (vs : List Value) (ρ ρ' : Vw) (s : Shared) (Q : Unit → Shared → Prop), bindAll is ds ρ = some ρ' → Cx tab h₁ A env kinds ρ f Av s →
    RdAll f Av s.heap vs ds → (∀ x ∈ is, storable kinds (tab x.1) = true) →
    (∀ h' tk, s.toks ≤ tk → KeepX A (WT tab env (is.map (·.1))) s.heap h' → Cx tab h₁ A env kinds ρ' f Av { s with heap := h', toks := tk } → Q () { s with heap := h', toks := tk }) →
    wpAny (model prog w) A (assignInOrder (is.map fun x => assign (.Name (tab x.1) x.2) env) vs) Q E s
  | [], [], vs, ρ, ρ', s, Q, hb, cx, r, _, hQ => by
    cases r
    cases hb
    exact wpAny_pure (hQ s.heap s.toks (Nat.le_refl _) .refl cx)
  | x :: is, d :: ds, _, ρ, ρ', s, Q, hb, cx, ⟨v, ws, p, r1, r2⟩, hst, hQ => by
    subst p
    refine wpAny_assignInOrder_more (wpAny_assign_Name (bind_sound T cx r1 (hst x (List.mem_cons_self ..)) fun h' tk ht k cl cx' => ?_))
    refine assignAll_sound T is ds ws _ ρ' _ Q hb cx' (RdAll.keepX k cl (.refl f) ds r2) (fun y hy => hst y (List.mem_cons_of_mem _ hy)) fun h'' tk' ht' k' cx'' => ?_
    have kA : KeepX A (WT tab env ((x :: is).map (·.1))) s.heap h' := k.weaken fun b o e q => ⟨x.1, by simp, q⟩
    have kB : KeepX A (WT tab env ((x :: is).map (·.1))) h' h'' := KeepX.weaken k' fun b o e q => WT.mono (fun i hi => by rw [List.map_cons]; exact List.mem_cons_of_mem _ hi) b q
    exact hQ h'' tk' (Nat.le_trans ht ht') (kA.trans kB) cx''
  | [], _ :: _, _, _, _, _, _, hb, _, _, _, _ => by cases hb
  | _ :: _, [], _, _, _, _, _, hb, _, _, _, _ => by cases hb

theorem assignEach_names (is : List (Nat × Pos)) : assignEach (is.map fun x => .Name (tab x.1) x.2) env = is.map fun x => (false, assign (.Name (tab x.1) x.2) env) := by
  induction is with
  | nil => rfl
  | cons x is ih =>
    show (false, assign (.Name (tab x.1) x.2) env) :: assignEach (is.map fun x => .Name (tab x.1) x.2) env = _
    rw [ih]; rfl
theorem bindAll_length : ∀ {is : List (Nat × Pos)} {ds : List D} {ρ ρ' : Vw}, bindAll is ds ρ = some ρ' → is.length = ds.length
  | [], [], _, _, _ => rfl
  | x :: is, d :: ds, ρ, _, h => by simp only [List.length_cons]; rw [bindAll_length (is := is) (ds := ds) (ρ := upd ρ x.1 d) h]
  | [], _ :: _, _, _, h => by cases h
  | _ :: _, [], _, _, h => by cases h

/-- a target takes a datum -/
theorem assign_sound (T : TabOk tab) (hh : A.handled = none) (cx : Cx tab h₁ A env kinds ρ f Av s) {t : Tgt} {v : Value} {d : D} (hb : bindT t d ρ = some ρ') (hr : Rd f Av s.heap v d)
    (hst : ∀ i ∈ t.is, storable kinds (tab i) = true) {Q : Unit → Shared → Prop}
    (hQ : ∀ h' tk, s.toks ≤ tk → KeepX A (WT tab env t.is) s.heap h' → Cx tab h₁ A env kinds ρ' f Av { s with heap := h', toks := tk } → Q () { s with heap := h', toks := tk }) :
    wpAny (model prog w) A (assign (t.toE tab) env v) Q E s := by
  cases t with
  | one i p =>
    cases hb
    refine wpAny_assign_Name (bind_sound T cx hr (hst i (by simp [Tgt.is])) fun h' tk ht k cl cx' => hQ h' tk ht (k.weaken fun b o e q => ⟨i, by simp [Tgt.is], q⟩) cx')
  | tup is p =>
    have fin : ∀ (ds : List D) (its : Array Value), bindAll is ds ρ = some ρ' → RdAll f Av s.heap its.toList ds → ∀ h₀, Heap.ExtBut s.heap.objs.size s.heap h₀ →
        wpAny (model prog w) A (assignInOrder ((assignEach (is.map fun x => .Name (tab x.1) x.2) env).map (·.2)) its.toList) Q E { s with heap := h₀ } := by
      intro ds its hb r h₀ he
      have k0 : KeepS A s { s with heap := h₀, toks := s.toks } := .of fun b o e => he b o (Nat.ne_of_lt (Heap.lt_size e)) e
      rw [assignEach_names, List.map_map]
      refine assignAll_sound T is ds its.toList ρ ρ' _ Q hb (cx.keep k0 (.refl f) cx.wd) (r.keep k0.keep (.refl f)) (fun x hx => hst x.1 (List.mem_map.mpr ⟨x, hx, rfl⟩)) fun h' tk ht k cx' => ?_
      exact hQ h' tk ht ((KeepX.of_keep k0.keep).trans k) cx'
    have hlen : ∀ (ds : List D) (its : Array Value), bindAll is ds ρ = some ρ' → RdAll f Av s.heap its.toList ds → (assignEach (is.map fun x => .Name (tab x.1) x.2) env).length = its.size := by
      intro ds its hb r
      rw [assignEach_names, List.length_map, bindAll_length hb]
      have := r.length
      rw [Array.length_toList] at this
      exact this.symm
    have hno : (assignEach (is.map fun x => .Name (tab x.1) x.2) env).findIdx? (·.1) = none := by
      rw [assignEach_names, List.findIdx?_eq_none_iff]
      intro x hx
      obtain ⟨y, _, rfl⟩ := List.mem_map.mp hx
      rfl
    cases d with
    | tuple ds =>
      obtain ⟨a, its, rfl, ht, r⟩ := hr
      exact wpAny_assign_Tuple hh (items := its) ht (hlen ds its hb r) hno (fin ds its hb r)
    | list ds =>
      obtain ⟨a, its, rfl, _, hl, r⟩ := hr
      show wpAny _ A (assign (.Tuple _ 0 p) env (.ref a)) Q E s
      rw [arm_assign_Tuple]
      refine wpAny_bind (wpAny_standAt ?_)
      unfold unpack
      rw [hlen ds its hb r, hno]
      exact wpAny_bind (wpAny_holding (unpackItems_list hh hl (fin ds its hb r)))
    | _ => cases hb
end
end Mine
end

section
namespace Mine
open PySem PySem.W PyProof.Rows

theorem plKeep {A : Around} {W : Addr → Prop} {h h' : Heap} {a : Addr} {its : Array Value} (x : PlainL h a its) (k : KeepX A W h h') (n : ¬ W a) : PlainL h' a its := by
  obtain ⟨o, m, ho, hc, hdn, hd⟩ := x
  obtain ⟨o', ho', _, sm⟩ := k a o n ho
  exact ⟨o', m, ho', sm.1.trans hc, sm.2.1.trans hdn, sm.2.2.trans hd⟩


theorem bindAll_other : ∀ {is : List (Nat × Pos)} {ds : List D} {ρ ρ' : Vw}, bindAll is ds ρ = some ρ' → ∀ i, i ∉ is.map (·.1) → ρ' i = ρ i
  | [], [], _, _, h, _, _ => by cases h; rfl
  | x :: is, d :: ds, ρ, ρ', h, i, hi => by
    rw [List.map_cons, List.mem_cons, not_or] at hi
    rw [bindAll_other (is := is) (ds := ds) (ρ := upd ρ x.1 d) h i hi.2]
    unfold upd; rw [if_neg hi.1]
  | [], _ :: _, _, _, h, _, _ => by cases h
  | _ :: _, [], _, _, h, _, _ => by cases h
theorem bindT_other {t : Tgt} {d : D} {ρ ρ' : Vw} (h : bindT t d ρ = some ρ') (i : Nat) (hi : i ∉ t.is) : ρ' i = ρ i := by
  cases t with
  | one j p =>
    cases h
    have : i ≠ j := by simpa [Tgt.is] using hi
    unfold upd; rw [if_neg this]
  | tup is p =>
    cases d with
    | tuple ds => exact bindAll_other (show bindAll is ds ρ = some ρ' from h) i hi
    | list ds => exact bindAll_other (show bindAll is ds ρ = some ρ' from h) i hi
    | _ => cases h

noncomputable def ownName (sc : Scope) (x : Str) : Bool := sc.names.lookup x == some .local || sc.names.lookup x == some .cell
/-- what a comprehension's run turns: its own names, and the list that it fills -/
noncomputable def WB (sc : Scope) (cenv : Env) (dst : Addr) : Addr → Prop := fun b => b = dst ∨ ∃ x, ownName sc x = true ∧ WS cenv x b

section
variable {prog : Program} {w : World} {A : Around} {f : TokMap} {Av : Addr → Prop} {s : Shared}
  {tab : Nat → Str} {h₁ : Heap} {env : Env} {kinds : List (Str × NameKind)} {ρ : Vw} {sc : Scope} {dst : Addr}

theorem wb_clear {h : Heap} {its : Array Value} (ok : EnvOk env kinds h) (hl : h.IsList dst its) (hAv : Av dst) : Clear (WB sc env dst) Av h := fun b o xs n hb e d => by
  rcases hb with rfl | ⟨x, _, q⟩
  · obtain ⟨o', e', c', _⟩ := hl
    rw [e] at e'; cases e'
    exact ⟨c', hAv⟩
  · exact ws_clear ok x b o xs n q e d
theorem ws_notFields {h : Heap} (ok : EnvOk env kinds h) {x : Str} {b : Addr} {o : Obj} {vs : Array Value} (hb : WS env x b) (e : h.get? b = some o) : o.data ≠ .fields vs := fun d => by
  rcases hb with ⟨_, rfl⟩ | ⟨hk, hc⟩
  · obtain ⟨m, o', es, ep, ho, hd, _⟩ := ok.ns
    rw [ho] at e; cases e
    rw [hd] at d; cases d
  · obtain ⟨c, v, hc', o', ho, hd⟩ := ok.cells x (.inl hk)
    rw [hc] at hc'; cases hc'
    rw [ho] at e; cases e
    rw [hd] at d; cases d
theorem wb_notFields {h : Heap} {its : Array Value} (ok : EnvOk env kinds h) (hl : h.IsList dst its) {b : Addr} {o : Obj} {vs : Array Value} (hb : WB sc env dst b) (e : h.get? b = some o) : o.data ≠ .fields vs := by
  rcases hb with rfl | ⟨x, _, q⟩
  · obtain ⟨o', e', _, n, d'⟩ := hl
    rw [e] at e'; cases e'
    rw [d']; simp
  · exact ws_notFields ok q e
theorem notFS_fields {h : Heap} (si : SI h₁ A h) {b : Addr} {o : Obj} {vs : Array Value} (e : h.get? b = some o) (d : o.data = .fields vs) : ¬ FS A b := by
  rintro ⟨fr, env, hf, hm, hb⟩
  obtain ⟨fr', hf', hF⟩ := si.fr
  rw [hf] at hf'; cases hf'
  obtain ⟨_, o', e', d'⟩ := funFrames_mem hF env hm b hb
  rw [e] at e'; cases e'
  exact d' _ d
theorem ws_list {h : Heap} {its : Array Value} (ok : EnvOk env kinds h) (hl : h.IsList dst its) {x : Str} : ¬ WS env x dst := fun hb => by
  obtain ⟨o, e, c, n, d⟩ := hl
  rcases hb with ⟨_, q⟩ | ⟨hk, hc⟩
  · obtain ⟨m, o', es, ep, ho, hd, _⟩ := ok.ns
    rw [q] at e
    rw [ho] at e; cases e
    rw [hd] at d; cases d
  · obtain ⟨c', v, hc', o', ho, hd⟩ := ok.cells x (.inl hk)
    rw [hc] at hc'; cases hc'
    rw [ho] at e; cases e
    rw [hd] at d; cases d

/-- what a turn does behind its tests: it adds bs to the list that is filled -/
noncomputable def ActOk (prog : Program) (w : World) (A : Around) (tab : Nat → Str) (h₁ : Heap) (cenv : Env) (kinds : List (Str × NameKind)) (Av W : Addr → Prop) (dst : Addr) (act : Sem Unit) (ρ : Vw) (bs : List D) : Prop :=
  ∀ (s : Shared) (f : TokMap) (its : Array Value) (es : List D), Cx tab h₁ A cenv kinds ρ f Av s → PlainL s.heap dst its → RdAll f Av s.heap its.toList es → (es ++ bs).length ≤ lim →
    ∀ (E : Value → Shared → Prop) (Q : Unit → Shared → Prop),
      (∀ h' tk f' its', s.toks ≤ tk → Ext f f' → KeepX A W s.heap h' → Cx tab h₁ A cenv kinds ρ f' Av { s with heap := h', toks := tk } → PlainL h' dst its' → RdAll f' Av h' its'.toList (es ++ bs) → Q () { s with heap := h', toks := tk }) →
      wpAny (model prog w) A act Q E s

theorem loop_sound (T : TabOk tab) (hh : A.handled = none) {e iter : Expr} {ifs : List Expr} {act : Sem Unit} {depth : Nat} {t : Tgt} {I : Addr} {fp : List Addr} {St : Nat → Heap → TokMap → Prop}
    (hq : ∀ it, compTurn e depth it (.ref dst) env = turnOf e (t.toE tab) iter ifs act depth it (.ref dst) env)
    (hf : (Code.compLoop e depth (.ref I) (.ref dst) env).isFrame = false) (hquiet : (Code.compLoop e depth (.ref I) (.ref dst) env).quiet = true) (hA : A.under (.compLoop e depth (.ref I) (.ref dst) env) = A)
    (hown : ∀ i ∈ t.is, ownName sc (tab i) = true ∧ storable kinds (tab i) = true) (hAv : Av dst) (hfp : ∀ b ∈ fp, h₁.get? b = none ∧ ¬ Av b)
    (evI : Vw → Option Bool)
    (tests : ∀ ρ' ok (s : Shared) f (E : Value → Shared → Prop) (Q : Bool → Shared → Prop), evI ρ' = some ok → Cx tab h₁ A env kinds ρ' f Av s →
      (∀ h' tk f', s.toks ≤ tk → Ext f f' → Wd f' tk → Keep A s.heap h' → Q ok { s with heap := h', toks := tk }) → wpAny (model prog w) A (testsOf ifs env) Q E s)
    (F : Vw → Option (List D)) (Dis : Nat → Prop) (hact : ∀ ρ' bs, F ρ' = some bs → (∀ i d, ρ' i = some d → ¬ Dis i) → ActOk prog w A tab h₁ env kinds Av (WB sc env dst) dst act ρ' bs)
    (hρ : ∀ i d, ρ i = some d → i ∉ t.is) (hdis : ∀ i d, ρ i = some d → ¬ Dis i) (hdis' : ∀ i ∈ t.is, ¬ Dis i)
    {ds bs : List D} (hc : collectM (fun d => (bindT t d ρ).bind fun ρ' => (evI ρ').bind fun ok => if ok then F ρ' else some []) ds = some bs)
    (itr : Itr prog w A (t.toE tab) Av I fp ds St)
    {its : Array Value} {es : List D} (st : St 0 s.heap f) (cx : Cx tab h₁ A env kinds ρ f Av s) (hl : PlainL s.heap dst its) (r : RdAll f Av s.heap its.toList es) (hsz : (es ++ bs).length ≤ lim)
    {R : Result → Shared → Prop}
    (hR : ∀ h' tk f' its', s.toks ≤ tk → Ext f f' → KeepX A (fun b => WB sc env dst b ∨ b ∈ fp) s.heap h' → Cx tab h₁ A env kinds ρ f' Av { s with heap := h', toks := tk } → PlainL h' dst its' → RdAll f' Av h' its'.toList (es ++ bs) → R (.ok .next) { s with heap := h', toks := tk }) :
    codeAny (model prog w) A (.compLoop e depth (.ref I) (.ref dst) env) R s := by
  obtain ⟨Inv, hInv⟩ : ∃ Inv : Nat → Shared → Prop, Inv = fun k s' => Ex7 fun (i : Nat) (h' : Heap) (tk : Nat) (f' : TokMap) (its' : Array Value) (don rest : List D) => And12 (s' = { s with heap := h', toks := tk }) (k = ds.length - i) (i ≤ ds.length) (s.toks ≤ tk) (Ext f f') (St i h' f') (Cx tab h₁ A env kinds ρ f' Av s') (PlainL h' dst its') (RdAll f' Av h' its'.toList (es ++ don)) (bs = don ++ rest) (collectM (fun d => (bindT t d ρ).bind fun ρ' => (evI ρ').bind fun ok => if ok then F ρ' else some []) (ds.drop i) = some rest) (KeepX A (fun b => WB sc env dst b ∨ b ∈ fp) s.heap h') := ⟨_, rfl⟩
  refine codeAny_turns hq hf hquiet hA Inv ?_ ds.length (by rw [hInv]; exact
    ⟨0, s.heap, s.toks, f, its, [], bs, rfl, rfl, Nat.zero_le _, Nat.le_refl _, .refl f, st, cx, hl, by simpa using r, rfl, by simpa using hc, .refl⟩)
  intro k s' hinv E'
  rw [hInv] at hinv
  obtain ⟨i, H, tk, f', its', don, rest, rfl, rfl, hi, htk, hext, hst, cx', hl', r', rfl, hrest, hk⟩ := hinv
  have fpFS : ∀ b ∈ fp, ¬ FS A b := fun b hb => by
    obtain ⟨o, vs, e1, d1⟩ := itr.objs _ _ _ hst b hb
    exact notFS_fields cx'.si e1 d1
  have fpWB : ∀ b ∈ fp, ¬ WB sc env dst b := fun b hb q => by
    obtain ⟨o, vs, e1, d1⟩ := itr.objs _ _ _ hst b hb
    exact wb_notFields cx'.ok hl'.isList q e1 d1
  have clB : Clear (· ∈ fp) Av H := clear_fp (itr.objs _ _ _ hst)
  have dstfp : dst ∉ fp := fun q => fpWB dst q (.inl rfl)
  have wtwb : ∀ b, WT tab env t.is b → WB sc env dst b := fun b ⟨j, hj, q⟩ => .inr ⟨tab j, (hown j hj).1, q⟩
  by_cases hlt : i < ds.length
  · have hd : ds[i]? = some ds[i] := List.getElem?_eq_getElem hlt
    have hdrop : ds.drop i = ds[i] :: ds.drop (i + 1) := List.drop_eq_getElem_cons hlt
    generalize ds[i] = d at hd hdrop
    rw [hdrop] at hrest
    simp only [collectM] at hrest
    split at hrest
    · rename_i a ha
      split at hrest
      · rename_i b hb
        cases hrest
        obtain ⟨ρ', hb1, hb2⟩ := Option.bind_eq_some_iff.mp ha
        obtain ⟨ok, hok, hb3⟩ := Option.bind_eq_some_iff.mp hb2
        have back : ∀ j e, ρ j = some e → ρ' j = some e := fun j e hj => by rw [bindT_other hb1 j (hρ j e hj)]; exact hj
        refine wpAny_mono (itr.item i d _ f' (fun v s₂ => wpAny (model prog w) A (assign (t.toE tab) env v) (fun _ s₃ => wpAny (model prog w) A (testsOf ifs env) (fun ok s₄ =>
            if ok = true then wpAny (model prog w) A act (fun _ s₅ => ∃ m, m < ds.length - i ∧ Inv m s₅) E' s₄ else ∃ m, m < ds.length - i ∧ Inv m s₄) E' s₃) E' s₂) E' hd hst cx'.wd fpFS ?_) (fun r s₁ h₁ => ?_) fun _ _ q => q
        · intro v h₂ tk₂ f₂ e₂ w₂ t₂ rv hst₂ kB
          have t₂' : tk ≤ tk₂ := t₂
          have gB : WGood h₁ Av (· ∈ fp) H h₂ := fun b hb => by
            obtain ⟨o, vs, e1, d1⟩ := itr.objs _ _ _ hst b hb
            exact ⟨(hfp b hb).1, .inl ⟨⟨o, vs, e1, d1⟩, (hfp b hb).2⟩⟩
          have cx₂ : Cx tab h₁ A env kinds ρ f₂ Av { s with heap := h₂, toks := tk₂ } := Cx.keepG (s := { s with heap := H, toks := tk }) cx' kB.keepX gB e₂ w₂
          have hl₂ : PlainL h₂ dst its' := plKeep hl' (kB.keepX (A := A)) dstfp
          have r₂ : RdAll f₂ Av h₂ its'.toList (es ++ don) := RdAll.keepX (kB.keepX (A := A)) clB e₂ _ r'
          refine assign_sound (s := { s with heap := h₂, toks := tk₂ }) T hh cx₂ hb1 rv (fun j hj => (hown j hj).2) fun h₃ tk₃ t₃ k₃ cx₃ => ?_
          have t₃' : tk₂ ≤ tk₃ := t₃
          have cl₃ : Clear (WT tab env t.is) Av h₂ := ws_clearT cx₂.ok _
          have hst₃ : St (i + 1) h₃ f₂ := itr.frame _ _ _ _ _ _ hst₂ (.refl _) k₃ cl₃ fun b hb => ⟨fun q => fpWB b hb (wtwb b q), fpFS b hb⟩
          have hl₃ : PlainL h₃ dst its' := plKeep hl₂ k₃ fun ⟨j, _, q⟩ => ws_list cx₂.ok hl₂.isList q
          have r₃ : RdAll f₂ Av h₃ its'.toList (es ++ don) := RdAll.keepX k₃ cl₃ (.refl _) _ r₂
          refine tests ρ' ok { s with heap := h₃, toks := tk₃ } f₂ E' _ hok cx₃ fun h₄ tk₄ f₄ t₄ e₄ w₄ k₄ => ?_
          have t₄' : tk₃ ≤ tk₄ := t₄
          have k₄' : Keep A h₃ h₄ := k₄
          have cx₄ : Cx tab h₁ A env kinds ρ' f₄ Av { s with heap := h₄, toks := tk₄ } := Cx.keep (s := { s with heap := h₃, toks := tk₃ }) cx₃ ⟨h₄, tk₄, rfl, k₄⟩ e₄ w₄
          have hst₄ : St (i + 1) h₄ f₄ := itr.frame _ _ _ _ _ _ hst₃ e₄ k₄' clear_noW fun b hb => ⟨fun q => q.elim, fpFS b hb⟩
          have hl₄ : PlainL h₄ dst its' := plKeep hl₃ k₄' fun q => q.elim
          have r₄ : RdAll f₄ Av h₄ its'.toList (es ++ don) := r₃.keep k₄' e₄
          have kk : KeepX A (fun b => WB sc env dst b ∨ b ∈ fp) s.heap h₄ := ((hk.trans (KeepX.weaken kB.keepX fun b o e q => .inr q)).trans (KeepX.weaken k₃ fun b o e q => .inl (wtwb b q))).trans (.of_keep k₄')
          cases ok with
          | false =>
            simp only [Bool.false_eq_true, if_false, Option.some.injEq] at hb3
            subst hb3
            simp only [Bool.false_eq_true, if_false]
            refine ⟨ds.length - (i + 1), by omega, ?_⟩
            rw [hInv]
            exact ⟨i + 1, h₄, tk₄, f₄, its', don, b, rfl, rfl, hlt, by omega, (hext.trans e₂).trans e₄, hst₄, cx₄.view back, hl₄, r₄, by simp, hb, kk⟩
          | true =>
            simp only [if_true] at hb3
            simp only [if_true]
            have dis₄ : ∀ j e, ρ' j = some e → ¬ Dis j := fun j e hj => by
              by_cases q : j ∈ t.is
              · exact hdis' j q
              · rw [bindT_other hb1 j q] at hj; exact hdis j e hj
            have sz : (es ++ don ++ a).length ≤ lim := by
              simp only [List.length_append] at hsz ⊢
              omega
            refine hact ρ' a hb3 dis₄ { s with heap := h₄, toks := tk₄ } f₄ its' (es ++ don) cx₄ hl₄ r₄ sz E' _ fun h₅ tk₅ f₅ its₅ t₅ e₅ k₅ cx₅ hl₅ r₅ => ?_
            have t₅' : tk₄ ≤ tk₅ := t₅
            have hst₅ : St (i + 1) h₅ f₅ := itr.frame _ _ _ _ _ _ hst₄ e₅ k₅ (wb_clear cx₄.ok hl₄.isList hAv) fun b hb => ⟨fpWB b hb, fpFS b hb⟩
            refine ⟨ds.length - (i + 1), by omega, ?_⟩
            rw [hInv]
            exact ⟨i + 1, h₅, tk₅, f₅, its₅, don ++ a, b, rfl, rfl, hlt, by omega, ((hext.trans e₂).trans e₄).trans e₅, hst₅, cx₅.view back, hl₅, by rw [← List.append_assoc]; exact r₅, by simp, hb, kk.trans (KeepX.weaken k₅ fun b o e q => .inl q)⟩
        · obtain ⟨v, rfl, hv⟩ := h₁
          exact hv
      · cases hrest
    · cases hrest
  · have hin : i = ds.length := by omega
    subst hin
    refine itr.done _ f' _ _ hst fun h₂ tk₂ t₂ kB => ?_
    have t₂' : tk ≤ tk₂ := t₂
    have hz : rest = [] := by
      rw [List.drop_length] at hrest
      cases hrest; rfl
    subst hz
    have gB : WGood h₁ Av (· ∈ fp) H h₂ := fun b hb => by
      obtain ⟨o, vs, e1, d1⟩ := itr.objs _ _ _ hst b hb
      exact ⟨(hfp b hb).1, .inl ⟨⟨o, vs, e1, d1⟩, (hfp b hb).2⟩⟩
    rw [List.append_nil] at hR
    exact hR h₂ tk₂ f' its' (Nat.le_trans htk t₂') hext (hk.trans (KeepX.weaken kB.keepX fun b o e q => .inr q))
      (Cx.keepG (s := { s with heap := H, toks := tk }) cx' kB.keepX gB (.refl _) (cx'.wd.mono t₂'))
      (plKeep hl' (kB.keepX (A := A)) dstfp) (RdAll.keepX (kB.keepX (A := A)) clB (.refl _) _ r')
end
end Mine
end

section
namespace Mine
open PySem PySem.W PyProof.Rows

section
variable {prog : Program} {w : World} {A : Around} {E : Value → Shared → Prop} {f : TokMap} {Av : Addr → Prop} {s : Shared} {a b : Value} {da db d : D}

end
end Mine
end

section
namespace Mine
open PySem PySem.W PyProof.Rows

/-- what a def's call answers, at a level of room -/
noncomputable def CallOk (prog : Program) (w : World) (tab : Nat → Str) (h₁ : Heap) (mg : Str → Option Value) (lvl : Nat) (G : Or) : Prop :=
  ∀ i ds d, G i ds = some d → ∃ a fd o, mg (tab i) = some (.ref a) ∧ h₁.get? a = some o ∧ o.data = .func fd ∧
    ∀ (A : Around) (s : Shared) (f : TokMap) (Av : Addr → Prop) (vs : List Value) (E : Value → Shared → Prop), AOk lvl A → SI h₁ A s.heap → (∀ a, Av a → ∃ o, s.heap.get? a = some o) → Wd f s.toks → RdAll f Av s.heap vs ds →
      wpAny (model prog w) A (call (.ref a) vs) (Got A f Av s d) E s

structure Ctxt where
  prog : Program
  w : World
  tab : Nat → Str
  h₁ : Heap
  mg : Str → Option Value
  mb : Str → Option Value
  G : Or
  lvl : Nat
structure Ctxt.Ok (Γ : Ctxt) : Prop where
  T : TabOk Γ.tab
  B : BaseOk Γ.h₁ Γ.mg Γ.mb
  call : CallOk Γ.prog Γ.w Γ.tab Γ.h₁ Γ.mg Γ.lvl Γ.G

noncomputable def SE (Γ : Ctxt) (kinds : List (Str × NameKind)) (c : C) : Prop := ∀ (ρ : Vw) (d : D), ev Γ.tab Γ.G c ρ = some d → ∀ (A : Around) (env : Env) (s : Shared) (f : TokMap) (Av : Addr → Prop) (E : Value → Shared → Prop),
  AOk Γ.lvl A → Cx Γ.tab Γ.h₁ A env kinds ρ f Av s → wpAny (model Γ.prog Γ.w) A (eval (c.toE Γ.tab) env) (Got A f Av s d) E s
noncomputable def GotB (A : Around) (f : TokMap) (s : Shared) (b : Bool) (b' : Bool) (s' : Shared) : Prop := b' = b ∧ KeepS A s s' ∧ ∃ f', Ext f f' ∧ Wd f' s'.toks
noncomputable def SB (Γ : Ctxt) (kinds : List (Str × NameKind)) (c : C) : Prop := ∀ (ρ : Vw) (b : Bool), boolOf (ev Γ.tab Γ.G c ρ) = some b → ∀ (A : Around) (env : Env) (s : Shared) (f : TokMap) (Av : Addr → Prop) (E : Value → Shared → Prop),
  AOk Γ.lvl A → Cx Γ.tab Γ.h₁ A env kinds ρ f Av s → wpAny (model Γ.prog Γ.w) A (isTrue (c.toE Γ.tab) env (eval (c.toE Γ.tab) env)) (GotB A f s b) E s
noncomputable def GotAll (A : Around) (f : TokMap) (Av : Addr → Prop) (s : Shared) (ds : List D) (vs : List Value) (s' : Shared) : Prop := KeepS A s s' ∧ ∃ f', Ext f f' ∧ Wd f' s'.toks ∧ RdAll f' Av s'.heap vs ds
noncomputable def SEs (Γ : Ctxt) (kinds : List (Str × NameKind)) (cs : Cs) : Prop := ∀ (ρ : Vw) (ds : List D), evs Γ.tab Γ.G cs ρ = some ds → ∀ (A : Around) (env : Env) (s : Shared) (f : TokMap) (Av : Addr → Prop) (E : Value → Shared → Prop) (pos : Pos),
  AOk Γ.lvl A → Cx Γ.tab Γ.h₁ A env kinds ρ f Av s → wpAny (model Γ.prog Γ.w) A (spliced (backTo pos (starEach (cs.toE Γ.tab) env))) (GotAll A f Av s ds) E s
noncomputable def SIfs (Γ : Ctxt) (kinds : List (Str × NameKind)) (cs : Cs) : Prop := ∀ (ρ : Vw) (b : Bool), evIfs Γ.tab Γ.G cs ρ = some b → ∀ (A : Around) (env : Env) (s : Shared) (f : TokMap) (Av : Addr → Prop) (E : Value → Shared → Prop),
  AOk Γ.lvl A → Cx Γ.tab Γ.h₁ A env kinds ρ f Av s → wpAny (model Γ.prog Γ.w) A (testsOf (cs.toE Γ.tab) env) (GotB A f s b) E s

section
variable {Γ : Ctxt} {kinds : List (Str × NameKind)} {A : Around} {env : Env} {s s₂ : Shared} {f f₂ : TokMap} {Av : Addr → Prop} {E : Value → Shared → Prop} {ρ : Vw} {a b c : C} {da db d : D}

theorem boolOf_inv {o : Option D} {b : Bool} (h : boolOf o = some b) : o = some (.bool b) := by
  unfold boolOf at h
  split at h
  · cases h; rfl
  · cases h
theorem one (ha : SE Γ kinds a) (e : ev Γ.tab Γ.G a ρ = some da) (ao : AOk Γ.lvl A) (cx : Cx Γ.tab Γ.h₁ A env kinds ρ f Av s) {Q : Value → Shared → Prop}
    (h : ∀ v s₁ f₁, KeepS A s s₁ → Ext f f₁ → Cx Γ.tab Γ.h₁ A env kinds ρ f₁ Av s₁ → Rd f₁ Av s₁.heap v da → Q v s₁) : wpAny (model Γ.prog Γ.w) A (eval (a.toE Γ.tab) env) Q E s :=
  wpAny_mono (ha ρ da e A env s f Av E ao cx) (fun v s₁ ⟨k, f₁, ex, wd, r⟩ => h v s₁ f₁ k ex (cx.keep k ex wd) r) fun _ _ q => q
theorem oneB (ha : SB Γ kinds a) {t : Bool} (e : boolOf (ev Γ.tab Γ.G a ρ) = some t) (ao : AOk Γ.lvl A) (cx : Cx Γ.tab Γ.h₁ A env kinds ρ f Av s) {Q : Bool → Shared → Prop}
    (h : ∀ s₁ f₁, KeepS A s s₁ → Ext f f₁ → Cx Γ.tab Γ.h₁ A env kinds ρ f₁ Av s₁ → Q t s₁) : wpAny (model Γ.prog Γ.w) A (isTrue (a.toE Γ.tab) env (eval (a.toE Γ.tab) env)) Q E s :=
  wpAny_mono (ha ρ t e A env s f Av E ao cx) (fun v s₁ ⟨e, k, f₁, ex, wd⟩ => e ▸ h s₁ f₁ k ex (cx.keep k ex wd)) fun _ _ q => q
theorem two (ha : SE Γ kinds a) (hb : SE Γ kinds b) (e : ev Γ.tab Γ.G a ρ = some da) (e' : ev Γ.tab Γ.G b ρ = some db) (ao : AOk Γ.lvl A) (cx : Cx Γ.tab Γ.h₁ A env kinds ρ f Av s) {Q : Value → Value → Shared → Prop}
    (h : ∀ v u s₁ f₁, KeepS A s s₁ → Ext f f₁ → Cx Γ.tab Γ.h₁ A env kinds ρ f₁ Av s₁ → Rd f₁ Av s₁.heap v da → Rd f₁ Av s₁.heap u db → Q v u s₁) :
    wpAny (model Γ.prog Γ.w) A (eval (a.toE Γ.tab) env) (fun v s₁ => wpAny (model Γ.prog Γ.w) A (eval (b.toE Γ.tab) env) (fun u s₂ => Q v u s₂) E s₁) E s :=
  one ha e ao cx fun v s₁ f₁ k ex cx₁ r => one hb e' ao cx₁ fun u s₂ f₂ k₂ ex₂ cx₂ r₂ => h v u s₂ f₂ (k.trans k₂) (ex.trans ex₂) cx₂ (r.keep k₂.keep ex₂) r₂
theorem fin {t : Sem Value} (k : KeepS A s s₂) (e : Ext f f₂) (h : wpAny (model Γ.prog Γ.w) A t (Got A f₂ Av s₂ d) E s₂) : wpAny (model Γ.prog Γ.w) A t (Got A f Av s d) E s₂ :=
  wpAny_mono h (fun _ _ g => g.trans k e) fun _ _ q => q

theorem AOk.room {lvl : Nat} (ao : AOk lvl A) : A.units + 100 < cLine := by have := ao.units; unfold cLine; omega

theorem se_int (n : Int) (p : Pos) : SE Γ kinds (.int n p) := fun ρ d h A env s f Av E ao cx => by
  cases h
  exact wpAny_Constant_int (.int .tok cx.wd (Nat.le_refl _) (Nat.lt_succ_self _))
theorem se_bool (n : Bool) (p : Pos) : SE Γ kinds (.bool n p) := fun ρ d h A env s f Av E ao cx => by
  cases h
  exact wpAny_Constant_bool (.bool .refl cx.wd (Nat.le_refl _))
theorem se_nothing : SE Γ kinds .nothing := fun ρ d h A env s f Av E ao cx => by
  cases h
  exact wpAny_Constant_none (.same .refl cx.wd (Nat.le_refl _) rfl)
theorem se_var (ok : Γ.Ok) (i : Nat) (p : Pos) : SE Γ kinds (.var i p) := fun ρ d h A env s f Av E ao cx => var_sound ok.T cx h

theorem se_bin {o : BO} {p : Pos} (ha : SE Γ kinds a) (hb : SE Γ kinds b) : SE Γ kinds (.bin o a b p) := fun ρ d h A env s f Av E ao cx => by
  simp only [ev_e1, ev_e2, ev_e3, ev_e4, ev_e5, ev_e6, ev_e7, ev_e8, ev_e9, ev_e10, ev_e11, ev_e12, ev_e13, ev_e14, ev_e15, ev_e16, ev_e17, ev_e18, ev_e19, ev_e20, ev_e21, ev_e22, ev_e23, ev_e24, ev_e25, ev_e26, ev_e27, ev_e28] at h
  obtain ⟨x, hx, h⟩ := Option.bind_eq_some_iff.mp h
  obtain ⟨y, hy, h⟩ := Option.bind_eq_some_iff.mp h
  exact wpAny_BinOp (two ha hb hx hy ao cx fun v u s₁ f₁ k ex cx₁ r r' => fin k ex (bin_sound h cx₁.wd cx₁.av r r'))
theorem se_cmp {o : CO} {p : Pos} (ha : SE Γ kinds a) (hb : SE Γ kinds b) : SE Γ kinds (.cmp o a b p) := fun ρ d h A env s f Av E ao cx => by
  simp only [ev_e1, ev_e2, ev_e3, ev_e4, ev_e5, ev_e6, ev_e7, ev_e8, ev_e9, ev_e10, ev_e11, ev_e12, ev_e13, ev_e14, ev_e15, ev_e16, ev_e17, ev_e18, ev_e19, ev_e20, ev_e21, ev_e22, ev_e23, ev_e24, ev_e25, ev_e26, ev_e27, ev_e28] at h
  obtain ⟨x, hx, h⟩ := Option.bind_eq_some_iff.mp h
  obtain ⟨y, hy, h⟩ := Option.bind_eq_some_iff.mp h
  exact wpAny_Compare1 (two ha hb hx hy ao cx fun v u s₁ f₁ k ex cx₁ r r' => fin k ex (cmp_sound h ao.room cx₁.wd r r')) (by cases b <;> rfl)
/-- a value's truth, of a bool -/
theorem truth_of {t : Sem Value} {e : Bool} (h : wpAny (model Γ.prog Γ.w) A t (Got A f Av s (.bool e)) E s) :
    wpAny (model Γ.prog Γ.w) A t (fun v s₁ => wpAny (model Γ.prog Γ.w) A (truthy v) (GotB A f s e) E s₁) E s :=
  wpAny_mono h (fun v s₁ ⟨k, f₁, ex, wd, r⟩ => by cases r; exact wpAny_truthy_bool ⟨rfl, k, f₁, ex, wd⟩) fun _ _ q => q
noncomputable def plainT : C → Bool
  | .not .. | .notL .. | .and2 .. | .and3 .. | .or2 .. | .isOrEq .. | .ite .. | .cmp .. => false
  | _ => true
theorem sb_plain (hp : plainT a = true) (ha : SE Γ kinds a) : SB Γ kinds a := fun ρ b h A env s f Av E ao cx => by
  refine wpAny_isTrue_value (truth_of (ha ρ _ (boolOf_inv h) A env s f Av E ao cx)) ?_
  cases a <;> first | rfl | cases hp
theorem sb_cmp {o : CO} {p : Pos} (ha : SE Γ kinds a) (hb : SE Γ kinds b) : SB Γ kinds (.cmp o a b p) := fun ρ t h A env s f Av E ao cx => by
  have h := boolOf_inv h
  simp only [ev_e1, ev_e2, ev_e3, ev_e4, ev_e5, ev_e6, ev_e7, ev_e8, ev_e9, ev_e10, ev_e11, ev_e12, ev_e13, ev_e14, ev_e15, ev_e16, ev_e17, ev_e18, ev_e19, ev_e20, ev_e21, ev_e22, ev_e23, ev_e24, ev_e25, ev_e26, ev_e27, ev_e28] at h
  obtain ⟨x, hx, h⟩ := Option.bind_eq_some_iff.mp h
  obtain ⟨y, hy, h⟩ := Option.bind_eq_some_iff.mp h
  refine wpAny_isTrue_Compare1 (two ha hb hx hy ao cx fun v u s₁ f₁ k ex cx₁ r r' => ?_) (by cases b <;> rfl)
  exact wpAny_mono (truth_of (cmp_sound h ao.room cx₁.wd r r')) (fun v s₂ hv => wpAny_mono hv (fun e s₃ ⟨q, k', f', ex', wd⟩ => ⟨q, k.trans k', f', ex.trans ex', wd⟩) fun _ _ q => q) fun _ _ q => q

theorem se_neg {p : Pos} (ha : SE Γ kinds a) : SE Γ kinds (.neg a p) := fun ρ d h A env s f Av E ao cx => by
  simp only [ev_e1, ev_e2, ev_e3, ev_e4, ev_e5, ev_e6, ev_e7, ev_e8, ev_e9, ev_e10, ev_e11, ev_e12, ev_e13, ev_e14, ev_e15, ev_e16, ev_e17, ev_e18, ev_e19, ev_e20, ev_e21, ev_e22, ev_e23, ev_e24, ev_e25, ev_e26, ev_e27, ev_e28] at h
  obtain ⟨x, hx, h⟩ := Option.bind_eq_some_iff.mp h
  obtain ⟨n, hn, rfl⟩ := Option.map_eq_some_iff.mp h
  refine wpAny_UnaryOp (one ha hx ao cx fun v s₁ f₁ k ex cx₁ r => fin k ex ?_)
  obtain ⟨t, rfl⟩ := r.num hn
  exact PyProof.Rows.neg_int (.int .tok cx₁.wd (Nat.le_refl _) (Nat.lt_succ_self _))
theorem se_not {p : Pos} (ha : SE Γ kinds a) : SE Γ kinds (.not a p) := fun ρ d h A env s f Av E ao cx => by
  simp only [ev_e1, ev_e2, ev_e3, ev_e4, ev_e5, ev_e6, ev_e7, ev_e8, ev_e9, ev_e10, ev_e11, ev_e12, ev_e13, ev_e14, ev_e15, ev_e16, ev_e17, ev_e18, ev_e19, ev_e20, ev_e21, ev_e22, ev_e23, ev_e24, ev_e25, ev_e26, ev_e27, ev_e28] at h
  obtain ⟨x, hx, rfl⟩ := Option.map_eq_some_iff.mp h
  refine wpAny_UnaryOp (one ha (boolOf_inv hx) ao cx fun v s₁ f₁ k ex cx₁ r => fin k ex ?_)
  cases r
  exact PyProof.Rows.not_of (wpAny_truthy_bool (.bool .refl cx₁.wd (Nat.le_refl _)))
theorem sb_not {p : Pos} (ha : SB Γ kinds a) : SB Γ kinds (.not a p) := fun ρ t h A env s f Av E ao cx => by
  have h := boolOf_inv h
  simp only [ev_e1, ev_e2, ev_e3, ev_e4, ev_e5, ev_e6, ev_e7, ev_e8, ev_e9, ev_e10, ev_e11, ev_e12, ev_e13, ev_e14, ev_e15, ev_e16, ev_e17, ev_e18, ev_e19, ev_e20, ev_e21, ev_e22, ev_e23, ev_e24, ev_e25, ev_e26, ev_e27, ev_e28] at h
  obtain ⟨x, hx, he⟩ := Option.map_eq_some_iff.mp h
  cases he
  exact wpAny_isTrue_Not (oneB ha hx ao cx fun s₁ f₁ k ex cx₁ => ⟨rfl, k, f₁, ex, cx₁.wd⟩)

theorem se_and2 {p : Pos} (ha : SE Γ kinds a) (hb : SE Γ kinds b) : SE Γ kinds (.and2 a b p) := fun ρ d h A env s f Av E ao cx => by
  simp only [ev_e1, ev_e2, ev_e3, ev_e4, ev_e5, ev_e6, ev_e7, ev_e8, ev_e9, ev_e10, ev_e11, ev_e12, ev_e13, ev_e14, ev_e15, ev_e16, ev_e17, ev_e18, ev_e19, ev_e20, ev_e21, ev_e22, ev_e23, ev_e24, ev_e25, ev_e26, ev_e27, ev_e28] at h
  obtain ⟨x, hx, h⟩ := Option.bind_eq_some_iff.mp h
  refine wpAny_And2 (one ha (boolOf_inv hx) ao cx fun v s₁ f₁ k ex cx₁ r => ?_)
  cases r
  refine wpAny_truthy_bool ?_
  cases x with
  | true => exact fin k ex (hb ρ d (by simpa using h) A env s₁ f₁ Av E ao cx₁)
  | false => cases h; exact (Got.bool .refl cx₁.wd (Nat.le_refl _)).trans k ex
theorem sb_and2 {p : Pos} (ha : SB Γ kinds a) (hb : SB Γ kinds b) : SB Γ kinds (.and2 a b p) := fun ρ t h A env s f Av E ao cx => by
  have h := boolOf_inv h
  simp only [ev_e1, ev_e2, ev_e3, ev_e4, ev_e5, ev_e6, ev_e7, ev_e8, ev_e9, ev_e10, ev_e11, ev_e12, ev_e13, ev_e14, ev_e15, ev_e16, ev_e17, ev_e18, ev_e19, ev_e20, ev_e21, ev_e22, ev_e23, ev_e24, ev_e25, ev_e26, ev_e27, ev_e28] at h
  obtain ⟨x, hx, h⟩ := Option.bind_eq_some_iff.mp h
  refine wpAny_isTrue_BoolOp (wpAny_allTrue_And_cons (oneB ha hx ao cx fun s₁ f₁ k ex cx₁ => ?_))
  cases x with
  | true =>
    simp only [if_true] at h ⊢
    refine wpAny_allTrue_And_cons (oneB hb (by rw [h]; rfl) ao cx₁ fun s₂ f₂ k₂ ex₂ cx₂ => ?_)
    cases t with
    | true => exact wpAny_allTrue_And_nil ⟨rfl, k.trans k₂, f₂, ex.trans ex₂, cx₂.wd⟩
    | false => exact ⟨rfl, k.trans k₂, f₂, ex.trans ex₂, cx₂.wd⟩
  | false => cases h; exact ⟨rfl, k, f₁, ex, cx₁.wd⟩
theorem se_or2 {p : Pos} (ha : SE Γ kinds a) (hb : SE Γ kinds b) : SE Γ kinds (.or2 a b p) := fun ρ d h A env s f Av E ao cx => by
  simp only [ev_e1, ev_e2, ev_e3, ev_e4, ev_e5, ev_e6, ev_e7, ev_e8, ev_e9, ev_e10, ev_e11, ev_e12, ev_e13, ev_e14, ev_e15, ev_e16, ev_e17, ev_e18, ev_e19, ev_e20, ev_e21, ev_e22, ev_e23, ev_e24, ev_e25, ev_e26, ev_e27, ev_e28] at h
  obtain ⟨x, hx, h⟩ := Option.bind_eq_some_iff.mp h
  refine wpAny_Or2 (one ha (boolOf_inv hx) ao cx fun v s₁ f₁ k ex cx₁ r => ?_)
  cases r
  refine wpAny_truthy_bool ?_
  cases x with
  | false => exact fin k ex (hb ρ d (by simpa using h) A env s₁ f₁ Av E ao cx₁)
  | true => cases h; exact (Got.bool .refl cx₁.wd (Nat.le_refl _)).trans k ex
theorem sb_or2 {p : Pos} (ha : SB Γ kinds a) (hb : SB Γ kinds b) : SB Γ kinds (.or2 a b p) := fun ρ t h A env s f Av E ao cx => by
  have h := boolOf_inv h
  simp only [ev_e1, ev_e2, ev_e3, ev_e4, ev_e5, ev_e6, ev_e7, ev_e8, ev_e9, ev_e10, ev_e11, ev_e12, ev_e13, ev_e14, ev_e15, ev_e16, ev_e17, ev_e18, ev_e19, ev_e20, ev_e21, ev_e22, ev_e23, ev_e24, ev_e25, ev_e26, ev_e27, ev_e28] at h
  obtain ⟨x, hx, h⟩ := Option.bind_eq_some_iff.mp h
  refine wpAny_isTrue_BoolOp (wpAny_allTrue_Or_cons (oneB ha hx ao cx fun s₁ f₁ k ex cx₁ => ?_))
  cases x with
  | false =>
    simp only [Bool.false_eq_true, if_false] at h ⊢
    refine wpAny_allTrue_Or_cons (oneB hb (by rw [h]; rfl) ao cx₁ fun s₂ f₂ k₂ ex₂ cx₂ => ?_)
    cases t with
    | false => exact wpAny_allTrue_Or_nil ⟨rfl, k.trans k₂, f₂, ex.trans ex₂, cx₂.wd⟩
    | true => exact ⟨rfl, k.trans k₂, f₂, ex.trans ex₂, cx₂.wd⟩
  | true => cases h; exact ⟨rfl, k, f₁, ex, cx₁.wd⟩

theorem wpAny_And3 {M : Model} {x y z : Expr} {pos : Pos} {Q : Value → Shared → Prop}
    (h : wpAny M A (eval x env) (fun v s₁ => wpAny M A (truthy v) (fun t s₂ => if t then wpAny M A (eval y env) (fun v s₁ => wpAny M A (truthy v) (fun t s₂ => if t then wpAny M A (eval z env) Q E s₂ else Q v s₂) E s₁) E s₂ else Q v s₂) E s₁) E s) :
    wpAny M A (eval (.BoolOp .And [x, y, z] pos) env) Q E s := by
  show wpAny M A (do
    let v ← eval x env
    standAt pos
    let t ← holding [v] (truthy v)
    match BoolOp.And, t with
    | .And, false | .Or, true => pure v
    | _, _ => (do
      let v ← eval y env
      standAt pos
      let t ← holding [v] (truthy v)
      match BoolOp.And, t with
      | .And, false | .Or, true => pure v
      | _, _ => eval z env)) Q E s
  refine wpAny_bind (wpAny_mono h (fun v s₁ h₁ => wpAny_bind (wpAny_standAt (wpAny_bind (wpAny_holding (wpAny_mono h₁ (fun t s₂ h₂ => ?_) fun _ _ x => x))))) fun _ _ x => x)
  cases t with
  | false => exact wpAny_pure h₂
  | true =>
    refine wpAny_bind (wpAny_mono h₂ (fun v s₁ h₁ => wpAny_bind (wpAny_standAt (wpAny_bind (wpAny_holding (wpAny_mono h₁ (fun t s₂ h₂ => ?_) fun _ _ x => x))))) fun _ _ x => x)
    cases t with
    | false => exact wpAny_pure h₂
    | true => exact h₂
theorem se_and3 {p : Pos} (ha : SE Γ kinds a) (hb : SE Γ kinds b) (hc : SE Γ kinds c) : SE Γ kinds (.and3 a b c p) := fun ρ d h A env s f Av E ao cx => by
  simp only [ev_e1, ev_e2, ev_e3, ev_e4, ev_e5, ev_e6, ev_e7, ev_e8, ev_e9, ev_e10, ev_e11, ev_e12, ev_e13, ev_e14, ev_e15, ev_e16, ev_e17, ev_e18, ev_e19, ev_e20, ev_e21, ev_e22, ev_e23, ev_e24, ev_e25, ev_e26, ev_e27, ev_e28] at h
  obtain ⟨x, hx, h⟩ := Option.bind_eq_some_iff.mp h
  refine wpAny_And3 (one ha (boolOf_inv hx) ao cx fun v s₁ f₁ k ex cx₁ r => ?_)
  cases r
  refine wpAny_truthy_bool ?_
  cases x with
  | true =>
    simp only [if_true] at h ⊢
    obtain ⟨y, hy, h⟩ := Option.bind_eq_some_iff.mp h
    refine one hb (boolOf_inv hy) ao cx₁ fun v s₂ f₂ k₂ ex₂ cx₂ r => ?_
    cases r
    refine wpAny_truthy_bool ?_
    cases y with
    | true => exact fin (k.trans k₂) (ex.trans ex₂) (hc ρ d (by simpa using h) A env s₂ f₂ Av E ao cx₂)
    | false => cases h; exact (Got.bool .refl cx₂.wd (Nat.le_refl _)).trans (k.trans k₂) (ex.trans ex₂)
  | false => cases h; exact (Got.bool .refl cx₁.wd (Nat.le_refl _)).trans k ex
theorem sb_and3 {p : Pos} (ha : SB Γ kinds a) (hb : SB Γ kinds b) (hc : SB Γ kinds c) : SB Γ kinds (.and3 a b c p) := fun ρ t h A env s f Av E ao cx => by
  have h := boolOf_inv h
  simp only [ev_e1, ev_e2, ev_e3, ev_e4, ev_e5, ev_e6, ev_e7, ev_e8, ev_e9, ev_e10, ev_e11, ev_e12, ev_e13, ev_e14, ev_e15, ev_e16, ev_e17, ev_e18, ev_e19, ev_e20, ev_e21, ev_e22, ev_e23, ev_e24, ev_e25, ev_e26, ev_e27, ev_e28] at h
  obtain ⟨x, hx, h⟩ := Option.bind_eq_some_iff.mp h
  refine wpAny_isTrue_BoolOp (wpAny_allTrue_And_cons (oneB ha hx ao cx fun s₁ f₁ k ex cx₁ => ?_))
  cases x with
  | true =>
    simp only [if_true] at h ⊢
    obtain ⟨y, hy, h⟩ := Option.bind_eq_some_iff.mp h
    refine wpAny_allTrue_And_cons (oneB hb hy ao cx₁ fun s₂ f₂ k₂ ex₂ cx₂ => ?_)
    cases y with
    | true =>
      simp only [if_true] at h ⊢
      refine wpAny_allTrue_And_cons (oneB hc (by rw [h]; rfl) ao cx₂ fun s₃ f₃ k₃ ex₃ cx₃ => ?_)
      cases t with
      | true => exact wpAny_allTrue_And_nil ⟨rfl, (k.trans k₂).trans k₃, f₃, (ex.trans ex₂).trans ex₃, cx₃.wd⟩
      | false => exact ⟨rfl, (k.trans k₂).trans k₃, f₃, (ex.trans ex₂).trans ex₃, cx₃.wd⟩
    | false => cases h; exact ⟨rfl, k.trans k₂, f₂, ex.trans ex₂, cx₂.wd⟩
  | false => cases h; exact ⟨rfl, k, f₁, ex, cx₁.wd⟩

theorem se_ite {t : C} {p : Pos} (ht : SB Γ kinds t) (ha : SE Γ kinds a) (hb : SE Γ kinds b) : SE Γ kinds (.ite t a b p) := fun ρ d h A env s f Av E ao cx => by
  simp only [ev_e1, ev_e2, ev_e3, ev_e4, ev_e5, ev_e6, ev_e7, ev_e8, ev_e9, ev_e10, ev_e11, ev_e12, ev_e13, ev_e14, ev_e15, ev_e16, ev_e17, ev_e18, ev_e19, ev_e20, ev_e21, ev_e22, ev_e23, ev_e24, ev_e25, ev_e26, ev_e27, ev_e28] at h
  obtain ⟨x, hx, h⟩ := Option.bind_eq_some_iff.mp h
  refine wpAny_IfExp (oneB ht hx ao cx fun s₁ f₁ k ex cx₁ => ?_)
  cases x with
  | true => exact fin k ex (ha ρ d (by simpa using h) A env s₁ f₁ Av E ao cx₁)
  | false => exact fin k ex (hb ρ d (by simpa using h) A env s₁ f₁ Av E ao cx₁)

theorem wpAny_isTrue_IfExp {M : Model} {t x y : Expr} {pos : Pos} {whole : Sem Value} {Q : Bool → Shared → Prop}
    (h : wpAny M A (isTrue t env (eval t env)) (fun b s₁ => if b then wpAny M A (isTrue x env (eval x env)) Q E s₁ else wpAny M A (isTrue y env (eval y env)) Q E s₁) E s) : wpAny M A (isTrue (.IfExp t x y pos) env whole) Q E s := by
  show wpAny M A (do if ← isTrue t env (eval t env) then isTrue x env (eval x env) else isTrue y env (eval y env)) Q E s
  refine wpAny_bind (wpAny_mono h (fun b s₁ h₁ => ?_) fun _ _ x => x)
  cases b <;> exact h₁
theorem sb_ite {t : C} {p : Pos} (ht : SB Γ kinds t) (ha : SB Γ kinds a) (hb : SB Γ kinds b) : SB Γ kinds (.ite t a b p) := fun ρ e h A env s f Av E ao cx => by
  have h := boolOf_inv h
  simp only [ev_e1, ev_e2, ev_e3, ev_e4, ev_e5, ev_e6, ev_e7, ev_e8, ev_e9, ev_e10, ev_e11, ev_e12, ev_e13, ev_e14, ev_e15, ev_e16, ev_e17, ev_e18, ev_e19, ev_e20, ev_e21, ev_e22, ev_e23, ev_e24, ev_e25, ev_e26, ev_e27, ev_e28] at h
  obtain ⟨x, hx, h⟩ := Option.bind_eq_some_iff.mp h
  refine wpAny_isTrue_IfExp (oneB ht hx ao cx fun s₁ f₁ k ex cx₁ => ?_)
  cases x with
  | true => exact oneB ha (by simp only [if_true] at h; rw [h]; rfl) ao cx₁ fun s₂ f₂ k₂ ex₂ cx₂ => ⟨rfl, k.trans k₂, f₂, ex.trans ex₂, cx₂.wd⟩
  | false => exact oneB hb (by simp only [Bool.false_eq_true, if_false] at h; rw [h]; rfl) ao cx₁ fun s₂ f₂ k₂ ex₂ cx₂ => ⟨rfl, k.trans k₂, f₂, ex.trans ex₂, cx₂.wd⟩

theorem ses_nil : SEs Γ kinds .nil := fun ρ ds h A env s f Av E pos ao cx => by
  cases h
  exact Calls.spliced_nil ⟨.refl, f, .refl f, cx.wd, .nil⟩
theorem ses_cons {r : Cs} (ha : SE Γ kinds a) (hr : SEs Γ kinds r) : SEs Γ kinds (.cons a r) := fun ρ ds h A env s f Av E pos ao cx => by
  simp only [evs_e1, evs_e2] at h
  obtain ⟨x, hx, h⟩ := Option.bind_eq_some_iff.mp h
  obtain ⟨xs, hxs, rfl⟩ := Option.map_eq_some_iff.mp h
  have e : backTo pos (starEach ((Cs.cons a r).toE Γ.tab) env) = (false, eval (a.toE Γ.tab) env) :: backTo pos (starEach (r.toE Γ.tab) env) := by cases a <;> rfl
  rw [e]
  refine Calls.spliced_cons (one ha hx ao cx fun v s₁ f₁ k ex cx₁ rv => ?_)
  exact wpAny_mono (hr ρ xs hxs A env s₁ f₁ Av E pos ao cx₁) (fun vs s₂ ⟨k₂, f₂, ex₂, wd₂, r₂⟩ => ⟨k.trans k₂, f₂, ex.trans ex₂, wd₂, .cons (rv.keep k₂.keep ex₂) r₂⟩) fun _ _ q => q

theorem se_list {es : Cs} {p : Pos} (h : SEs Γ kinds es) : SE Γ kinds (.list es p) := fun ρ d hd A env s f Av E ao cx => by
  simp only [ev_e1, ev_e2, ev_e3, ev_e4, ev_e5, ev_e6, ev_e7, ev_e8, ev_e9, ev_e10, ev_e11, ev_e12, ev_e13, ev_e14, ev_e15, ev_e16, ev_e17, ev_e18, ev_e19, ev_e20, ev_e21, ev_e22, ev_e23, ev_e24, ev_e25, ev_e26, ev_e27, ev_e28] at hd
  obtain ⟨ds, hds, hd⟩ := Option.bind_eq_some_iff.mp hd
  obtain ⟨hsz, rfl⟩ := mkList_inv hd
  refine List_ (wpAny_mono (h ρ ds hds A env s f Av E p ao cx) (fun vs s₁ ⟨k, f₁, ex, wd, r⟩ => ?_) fun _ _ q => q)
  refine wpAny_newObj_type ?_ (by show vs.toArray.size ≤ sizeLine; rw [List.size_toArray, r.length]; have := lim_le; omega)
  exact (got_newList wd (cx.keep k ex wd).av r).trans k ex
theorem sifs_nil : SIfs Γ kinds .nil := fun ρ b h A env s f Av E ao cx => by
  cases h
  exact wpAny_pure ⟨rfl, .refl, f, .refl f, cx.wd⟩
theorem tests_false (M : Model) (cs : List Expr) {Q : Bool → Shared → Prop} (h : Q false s) : wpAny M A (forIn cs false fun c r => if r = true then do let ok ← isTrue c env (eval c env); pure (ForInStep.yield ok) else pure (ForInStep.yield r)) Q E s := by
  induction cs with
  | nil => exact wpAny_pure h
  | cons c cs ih => rw [List.forIn_cons]; exact ih
theorem sifs_cons {r : Cs} (ha : SB Γ kinds a) (hr : SIfs Γ kinds r) : SIfs Γ kinds (.cons a r) := fun ρ b h A env s f Av E ao cx => by
  simp only [evIfs_e1, evIfs_e2] at h
  obtain ⟨x, hx, h⟩ := Option.bind_eq_some_iff.mp h
  show wpAny _ A (forIn (a.toE Γ.tab :: r.toE Γ.tab) true _) _ _ _
  rw [List.forIn_cons]
  simp only [if_true, bind_assoc, pure_bind]
  refine wpAny_bind (oneB ha hx ao cx fun s₁ f₁ k ex cx₁ => ?_)
  cases x with
  | true => exact wpAny_mono (hr ρ b (by simpa using h) A env s₁ f₁ Av E ao cx₁) (fun e s₃ ⟨q, k', f', ex', wd⟩ => ⟨q, k.trans k', f', ex.trans ex', wd⟩) fun _ _ q => q
  | false => cases h; exact tests_false _ _ ⟨rfl, k, f₁, ex, cx₁.wd⟩
end
end Mine
end

section
namespace Mine
open PySem PySem.W PyProof.Rows

section
variable {Γ : Ctxt} {kinds : List (Str × NameKind)} {A : Around} {env : Env} {s s₂ : Shared} {f f₂ : TokMap} {Av : Addr → Prop} {E : Value → Shared → Prop} {ρ : Vw} {a b c : C} {da db d : D}

theorem itemD_seq {di : D} (h : itemD da di = some d) {v : Value} (r : Rd f Av s.heap v da) : ∃ T id, typeLookup (.type T) "__getitem__" = pure (some (.builtin id)) ∧ s.TypeIs v T := by
  unfold itemD at h
  split at h
  · split at h
    · split at h
      · obtain ⟨l, its, rfl, _, hl, _⟩ := r; exact ⟨_, _, list_getitem_lookup, hl.typeIs⟩
      · obtain ⟨t, rfl, _⟩ := r; exact ⟨_, _, F.slot_str_getitem.lookup, typeIs_str _ _ _⟩
      · cases h
    · cases h
  · cases h
theorem sliceD_seq {lo hi st : D} (h : sliceD da lo hi st = some d) {v : Value} (r : Rd f Av s.heap v da) : ∃ T id, typeLookup (.type T) "__getitem__" = pure (some (.builtin id)) ∧ s.TypeIs v T := by
  unfold sliceD at h
  obtain ⟨pl, hpl, h⟩ := Option.bind_eq_some_iff.mp h
  obtain ⟨pu, hpu, h⟩ := Option.bind_eq_some_iff.mp h
  obtain ⟨ps, hps, h⟩ := Option.bind_eq_some_iff.mp h
  split at h
  · obtain ⟨l, its, rfl, _, hl, _⟩ := r; exact ⟨_, _, list_getitem_lookup, hl.typeIs⟩
  · obtain ⟨t, rfl, _⟩ := r; exact ⟨_, _, F.slot_str_getitem.lookup, typeIs_str _ _ _⟩
  · cases h

theorem se_item {i : C} {p : Pos} (ha : SE Γ kinds a) (hi : SE Γ kinds i) : SE Γ kinds (.item a i p) := fun ρ d h A env s f Av E ao cx => by
  simp only [ev_e1, ev_e2, ev_e3, ev_e4, ev_e5, ev_e6, ev_e7, ev_e8, ev_e9, ev_e10, ev_e11, ev_e12, ev_e13, ev_e14, ev_e15, ev_e16, ev_e17, ev_e18, ev_e19, ev_e20, ev_e21, ev_e22, ev_e23, ev_e24, ev_e25, ev_e26, ev_e27, ev_e28] at h
  obtain ⟨x, hx, h⟩ := Option.bind_eq_some_iff.mp h
  obtain ⟨y, hy, h⟩ := Option.bind_eq_some_iff.mp h
  refine Subscript_ (two ha hi hx hy ao cx fun v u s₁ f₁ k ex cx₁ r r' => fin k ex ?_)
  obtain ⟨T, id, hl, hT⟩ := itemD_seq h r
  exact tail_any (ops := [v, u]) hT hl (item_sound h cx₁.wd r r') (by cases i <;> rfl)

noncomputable def partC : C → Bool
  | .nothing | .int .. | .var .. | .bin .. | .neg .. => true
  | _ => false
theorem part_step (hp : partC a = true) {Q : Value → Shared → Prop} (h : wpAny (model Γ.prog Γ.w) A (eval (a.toE Γ.tab) env) Q E s) : wpAny (model Γ.prog Γ.w) A (evalPart (a.toO Γ.tab) env) Q E s := by
  cases a <;> first | (cases hp; done) | exact evalPart_some_step h
theorem se_slice {lo hi st : C} {ps p : Pos} (hl : partC lo = true) (hh : partC hi = true) (hs : partC st = true) (ha : SE Γ kinds a) (h1 : SE Γ kinds lo) (h2 : SE Γ kinds hi) (h3 : SE Γ kinds st) : SE Γ kinds (.slice a lo hi st ps p) := fun ρ d h A env s f Av E ao cx => by
  simp only [ev_e1, ev_e2, ev_e3, ev_e4, ev_e5, ev_e6, ev_e7, ev_e8, ev_e9, ev_e10, ev_e11, ev_e12, ev_e13, ev_e14, ev_e15, ev_e16, ev_e17, ev_e18, ev_e19, ev_e20, ev_e21, ev_e22, ev_e23, ev_e24, ev_e25, ev_e26, ev_e27, ev_e28] at h
  obtain ⟨x, hx, h⟩ := Option.bind_eq_some_iff.mp h
  obtain ⟨y1, hy1, h⟩ := Option.bind_eq_some_iff.mp h
  obtain ⟨y2, hy2, h⟩ := Option.bind_eq_some_iff.mp h
  obtain ⟨y3, hy3, h⟩ := Option.bind_eq_some_iff.mp h
  refine Subscript_ (one ha hx ao cx fun v s₁ f₁ k ex cx₁ r => wpAny_Slice (part_step hl (one h1 hy1 ao cx₁ fun v1 s₂ f₂ k2 ex2 cx₂ r1 =>
    part_step hh (one h2 hy2 ao cx₂ fun v2 s₃ f₃ k3 ex3 cx₃ r2 => part_step hs (one h3 hy3 ao cx₃ fun v3 s₄ f₄ k4 ex4 cx₄ r3 => ?_)))))
  have kp : KeepS A s₄ { s₄ with heap := s₄.heap.push { cls := .type "slice", data := .fields #[v1, v2, v3] } } := keep_push _
  have cx₅ := cx₄.keep kp (.refl f₄) cx₄.wd
  have r' := ((r.keep k2.keep ex2).keep k3.keep ex3).keep k4.keep ex4
  refine fin (((((k.trans k2).trans k3).trans k4)).trans kp) (((ex.trans ex2).trans ex3).trans ex4) ?_
  have r'' := r'.keep kp.keep (.refl f₄)
  obtain ⟨T, id, hlk, hT⟩ := sliceD_seq h r''
  refine tail_any (ops := if (st.toO Γ.tab).isNone then [.ref s₄.heap.objs.size, v] else [v, .ref s₄.heap.objs.size]) hT hlk
    (slice_sound h cx₅.wd cx₅.av r'' (((r1.keep k3.keep ex3).keep k4.keep ex4).keep kp.keep (.refl f₄)) ((r2.keep k4.keep ex4).keep kp.keep (.refl f₄)) (r3.keep kp.keep (.refl f₄)) (Heap.IsSliceOf.new _ _ _ _)) ?_
  cases st <;> first | (cases hs; done) | rfl

/-! calls -/
theorem back_cons (tab : Nat → Str) (a : C) (r : Cs) (pos : Pos) (env : Env) : backTo pos (starEach ((Cs.cons a r).toE tab) env) = (false, eval (a.toE tab) env) :: backTo pos (starEach (r.toE tab) env) := by cases a <;> rfl
theorem back_plain (tab : Nat → Str) (pos : Pos) (env : Env) : ∀ (r : Cs), (backTo pos (starEach (r.toE tab) env)).any (·.1) = false
  | .nil => rfl
  | .cons a r => by rw [back_cons, List.any_cons, back_plain tab pos env r]; rfl

noncomputable def isBuiltinName (x : Str) : Prop := x ∈ (["sum", "len", "min", "max", "range", "enumerate", "list", "ValueError"] : List Str)

theorem call_builtin_args (ok : Γ.Ok) (cx : Cx Γ.tab Γ.h₁ A env kinds ρ f Av s) {x : Str} {id : String} {r : Cs} {pf p : Pos} {Q : Value → Shared → Prop} (hx : kinds.lookup x = some .globalImplicit)
    (hb : isBuiltinName x) (hv : bootBuiltins x = some (.builtin id)) (hn : x ≠ "__name__") (hd : (x == ("__debug__" : Str)) = false)
    (h : wpAny (model Γ.prog Γ.w) A (spliced (backTo p (starEach ((Cs.cons a r).toE Γ.tab) env))) (fun vs s₁ => wpAny (model Γ.prog Γ.w) A (call (.builtin id) vs) Q E s₁) E s) :
    wpAny (model Γ.prog Γ.w) A (eval (.Call (.Name x pf) ((Cs.cons a r).toE Γ.tab) [] p) env) Q E s := by
  refine Call_Name rfl (nameB ok.B cx hx hb hv hn hd (Calls.callWith_builtin (back_plain _ _ _ _) ?_))
  rw [back_cons] at h ⊢
  exact Calls.evalArgs_plain h
theorem call_type_args (ok : Γ.Ok) (cx : Cx Γ.tab Γ.h₁ A env kinds ρ f Av s) {x : Str} {id : String} {r : Cs} {pf p : Pos} {Q : Value → Shared → Prop} (hx : kinds.lookup x = some .globalImplicit)
    (hb : isBuiltinName x) (hv : bootBuiltins x = some (.type id)) (hn : x ≠ "__name__") (hd : (x == ("__debug__" : Str)) = false)
    (h : wpAny (model Γ.prog Γ.w) A (spliced (backTo p (starEach ((Cs.cons a r).toE Γ.tab) env))) (fun vs s₁ => wpAny (model Γ.prog Γ.w) A (call (.type id) vs) Q E s₁) E s) :
    wpAny (model Γ.prog Γ.w) A (eval (.Call (.Name x pf) ((Cs.cons a r).toE Γ.tab) [] p) env) Q E s := by
  refine Call_Name rfl (nameB ok.B cx hx hb hv hn hd (PyProof.Rows.callWith_type (back_plain _ _ _ _) ?_))
  rw [back_cons] at h ⊢
  exact Calls.evalArgs_plain h

theorem ses_one (ha : SE Γ kinds a) (hx : ev Γ.tab Γ.G a ρ = some da) (ao : AOk Γ.lvl A) (cx : Cx Γ.tab Γ.h₁ A env kinds ρ f Av s) {p : Pos} {Q : List Value → Shared → Prop}
    (h : ∀ v s₁ f₁, KeepS A s s₁ → Ext f f₁ → Cx Γ.tab Γ.h₁ A env kinds ρ f₁ Av s₁ → Rd f₁ Av s₁.heap v da → Q [v] s₁) :
    wpAny (model Γ.prog Γ.w) A (spliced (backTo p (starEach ((Cs.cons a .nil).toE Γ.tab) env))) Q E s := by
  rw [back_cons]
  exact Calls.spliced_cons (one ha hx ao cx fun v s₁ f₁ k ex cx₁ r => Calls.spliced_nil (h v s₁ f₁ k ex cx₁ r))
theorem ses_two (ha : SE Γ kinds a) (hb : SE Γ kinds b) (hx : ev Γ.tab Γ.G a ρ = some da) (hy : ev Γ.tab Γ.G b ρ = some db) (ao : AOk Γ.lvl A) (cx : Cx Γ.tab Γ.h₁ A env kinds ρ f Av s) {p : Pos} {Q : List Value → Shared → Prop}
    (h : ∀ v u s₁ f₁, KeepS A s s₁ → Ext f f₁ → Cx Γ.tab Γ.h₁ A env kinds ρ f₁ Av s₁ → Rd f₁ Av s₁.heap v da → Rd f₁ Av s₁.heap u db → Q [v, u] s₁) :
    wpAny (model Γ.prog Γ.w) A (spliced (backTo p (starEach ((Cs.cons a (.cons b .nil)).toE Γ.tab) env))) Q E s := by
  rw [back_cons, back_cons]
  exact Calls.spliced_cons (wpAny_mono (two ha hb hx hy ao cx (Q := fun v u s₁ => Q [v, u] s₁) h) (fun v s₁ h₁ => Calls.spliced_cons (wpAny_mono h₁ (fun u s₂ h₂ => Calls.spliced_nil h₂) fun _ _ q => q)) fun _ _ q => q)

theorem se_sum (ok : Γ.Ok) {pf p : Pos} (hx : kinds.lookup ("sum" : Str) = some .globalImplicit) (ha : SE Γ kinds a) : SE Γ kinds (.sum a pf p) := fun ρ d h A env s f Av E ao cx => by
  simp only [ev_e1, ev_e2, ev_e3, ev_e4, ev_e5, ev_e6, ev_e7, ev_e8, ev_e9, ev_e10, ev_e11, ev_e12, ev_e13, ev_e14, ev_e15, ev_e16, ev_e17, ev_e18, ev_e19, ev_e20, ev_e21, ev_e22, ev_e23, ev_e24, ev_e25, ev_e26, ev_e27, ev_e28] at h
  obtain ⟨x, hxa, h⟩ := Option.bind_eq_some_iff.mp h
  exact call_builtin_args (r := .nil) ok cx hx (by unfold isBuiltinName; simp) boot_sum' (by decide) (by decide)
    (ses_one ha hxa ao cx fun v s₁ f₁ k ex cx₁ r => fin k ex (sum_sound h ao.handled cx₁.wd r))
theorem se_len (ok : Γ.Ok) {pf p : Pos} (hx : kinds.lookup ("len" : Str) = some .globalImplicit) (ha : SE Γ kinds a) : SE Γ kinds (.len a pf p) := fun ρ d h A env s f Av E ao cx => by
  simp only [ev_e1, ev_e2, ev_e3, ev_e4, ev_e5, ev_e6, ev_e7, ev_e8, ev_e9, ev_e10, ev_e11, ev_e12, ev_e13, ev_e14, ev_e15, ev_e16, ev_e17, ev_e18, ev_e19, ev_e20, ev_e21, ev_e22, ev_e23, ev_e24, ev_e25, ev_e26, ev_e27, ev_e28] at h
  obtain ⟨x, hxa, h⟩ := Option.bind_eq_some_iff.mp h
  exact call_builtin_args (r := .nil) ok cx hx (by unfold isBuiltinName; simp) boot_len' (by decide) (by decide)
    (ses_one ha hxa ao cx fun v s₁ f₁ k ex cx₁ r => fin k ex (len_sound h cx₁.wd r))
noncomputable def isStrC : C → Bool
  | .str .. => true
  | _ => false
theorem se_call (ok : Γ.Ok) {i : Nat} {r : Cs} {pf p : Pos} (hx : kinds.lookup (Γ.tab i) = some .globalImplicit) (h : SEs Γ kinds (.cons a r)) : SE Γ kinds (.call i (.cons a r) pf p) := fun ρ d hd A env s f Av E ao cx => by
  simp only [ev_e1, ev_e2, ev_e3, ev_e4, ev_e5, ev_e6, ev_e7, ev_e8, ev_e9, ev_e10, ev_e11, ev_e12, ev_e13, ev_e14, ev_e15, ev_e16, ev_e17, ev_e18, ev_e19, ev_e20, ev_e21, ev_e22, ev_e23, ev_e24, ev_e25, ev_e26, ev_e27, ev_e28] at hd
  obtain ⟨ds, hds, hd⟩ := Option.bind_eq_some_iff.mp hd
  obtain ⟨addr, fd, o, hm, ho, hod, hcall⟩ := ok.call i ds d hd
  refine Call_Name rfl (nameG ok.B cx hx hm (ok.T.dbg i) (Calls.callWith_function (o := o) (fd := fd) ?_))
  have hs := h ρ ds hds A env s f Av E p ao cx
  rw [back_cons] at hs ⊢
  refine Calls.evalArgs_plain (wpAny_mono hs (fun vs s₁ ⟨k, f₁, ex, wd, r⟩ => ⟨⟨(cx.keep k ex wd).si.base _ _ ho, hod⟩, ?_⟩) fun _ _ q => q)
  exact fin k ex (hcall A s₁ f₁ Av vs E ao (cx.keep k ex wd).si (cx.keep k ex wd).av wd r)

/-! «is» or «==» -/
theorem isOrEq_parts {i j : Nat} {x y : D} {t : Bool} (ok : Γ.Ok) (ao : AOk Γ.lvl A) (hx : ρ i = some x) (hy : ρ j = some y) (hk : isKind x y = true) (he : eqD x y = some t)
    (cx : Cx Γ.tab Γ.h₁ A env kinds ρ f Av s) {pi pj : Pos} {Q : Value → Shared → Prop}
    (h : ∀ (c : Bool) s₁ f₁, KeepS A s s₁ → Ext f f₁ → Cx Γ.tab Γ.h₁ A env kinds ρ f₁ Av s₁ → (c = true → t = true) → Q (.bool c) s₁) :
    wpAny (model Γ.prog Γ.w) A (eval (.Name (Γ.tab i) pi) env) (fun v s₁ => wpAny (model Γ.prog Γ.w) A (eval (.Name (Γ.tab j) pj) env) (fun u s₂ => wpAny (model Γ.prog Γ.w) A (compareOp .Is v u) Q E s₂) E s₁) E s := by
  refine two (a := .var i pi) (b := .var j pj) (se_var ok i pi) (se_var ok j pj) hx hy ao cx fun v u s₁ f₁ k ex cx₁ r r' => ?_
  show wpAny _ A (isSame v u >>= fun c => pure (.bool c)) Q E s₁
  have nb : NoneBooked s₁.heap := let ⟨mc, h1, h2⟩ := ok.B.nb; ⟨mc, h1.keeps cx₁.si.base, h2⟩
  refine wpAny_bind (isSame_any nb r r' hk fun c hc => wpAny_pure (h c s₁ f₁ k ex cx₁ fun q => ?_))
  unfold eqD at he
  split at he
  · cases he
    rw [← hc q]
    exact SeqAt.eqv_refl _ (Rd.reads _ r).1
  · cases he
theorem eq_names {i j : Nat} {x y : D} {t : Bool} (ok : Γ.Ok) (ao : AOk Γ.lvl A) (hx : ρ i = some x) (hy : ρ j = some y) (he : eqD x y = some t) (cx : Cx Γ.tab Γ.h₁ A env kinds ρ f Av s) {pi pj : Pos} {Q : Value → Shared → Prop}
    (h : ∀ v u s₁ f₁, KeepS A s s₁ → Ext f f₁ → Cx Γ.tab Γ.h₁ A env kinds ρ f₁ Av s₁ → wpAny (model Γ.prog Γ.w) A (compareOp .Eq v u) (Got A f₁ Av s₁ (.bool t)) E s₁ → wpAny (model Γ.prog Γ.w) A (compareOp .Eq v u) Q E s₁) :
    wpAny (model Γ.prog Γ.w) A (eval (.Name (Γ.tab i) pi) env) (fun v s₁ => wpAny (model Γ.prog Γ.w) A (eval (.Name (Γ.tab j) pj) env) (fun u s₂ => wpAny (model Γ.prog Γ.w) A (compareOp .Eq v u) Q E s₂) E s₁) E s :=
  two (a := .var i pi) (b := .var j pj) (se_var ok i pi) (se_var ok j pj) hx hy ao cx fun v u s₁ f₁ k ex cx₁ r r' => h v u s₁ f₁ k ex cx₁ (eq_sound he ao.room cx₁.wd r r')
theorem se_isOrEq (ok : Γ.Ok) {i j : Nat} {pi pj qi qj p1 p2 p : Pos} : SE Γ kinds (.isOrEq i j pi pj qi qj p1 p2 p) := fun ρ d h A env s f Av E ao cx => by
  simp only [ev_e1, ev_e2, ev_e3, ev_e4, ev_e5, ev_e6, ev_e7, ev_e8, ev_e9, ev_e10, ev_e11, ev_e12, ev_e13, ev_e14, ev_e15, ev_e16, ev_e17, ev_e18, ev_e19, ev_e20, ev_e21, ev_e22, ev_e23, ev_e24, ev_e25, ev_e26, ev_e27, ev_e28] at h
  obtain ⟨x, hx, h⟩ := Option.bind_eq_some_iff.mp h
  obtain ⟨y, hy, h⟩ := Option.bind_eq_some_iff.mp h
  split at h
  · rename_i hk
    obtain ⟨t, he, rfl⟩ := Option.map_eq_some_iff.mp h
    refine wpAny_Or2 (wpAny_Compare1 (isOrEq_parts ok ao hx hy hk he cx fun c s₁ f₁ k ex cx₁ hc => wpAny_truthy_bool ?_) rfl)
    cases c with
    | true => rw [hc rfl]; exact (Got.bool .refl cx₁.wd (Nat.le_refl _)).trans k ex
    | false => exact wpAny_Compare1 (eq_names ok ao hx hy he cx₁ fun v u s₂ f₂ k₂ ex₂ cx₂ hq => fin (k.trans k₂) (ex.trans ex₂) hq) rfl
  · cases h
theorem sb_isOrEq (ok : Γ.Ok) {i j : Nat} {pi pj qi qj p1 p2 p : Pos} : SB Γ kinds (.isOrEq i j pi pj qi qj p1 p2 p) := fun ρ z h A env s f Av E ao cx => by
  have h := boolOf_inv h
  simp only [ev_e1, ev_e2, ev_e3, ev_e4, ev_e5, ev_e6, ev_e7, ev_e8, ev_e9, ev_e10, ev_e11, ev_e12, ev_e13, ev_e14, ev_e15, ev_e16, ev_e17, ev_e18, ev_e19, ev_e20, ev_e21, ev_e22, ev_e23, ev_e24, ev_e25, ev_e26, ev_e27, ev_e28] at h
  obtain ⟨x, hx, h⟩ := Option.bind_eq_some_iff.mp h
  obtain ⟨y, hy, h⟩ := Option.bind_eq_some_iff.mp h
  split at h
  · rename_i hk
    obtain ⟨t, he, hz⟩ := Option.map_eq_some_iff.mp h
    cases hz
    refine wpAny_isTrue_BoolOp (wpAny_allTrue_Or_cons (wpAny_isTrue_Compare1 (isOrEq_parts ok ao hx hy hk he cx fun c s₁ f₁ k ex cx₁ hc => wpAny_truthy_bool ?_) rfl))
    cases c with
    | true => rw [hc rfl]; exact ⟨rfl, k, f₁, ex, cx₁.wd⟩
    | false =>
      refine wpAny_allTrue_Or_cons (wpAny_isTrue_Compare1 (eq_names ok ao hx hy he cx₁ fun v u s₂ f₂ k₂ ex₂ cx₂ hq => ?_) rfl)
      refine wpAny_mono (truth_of hq) (fun v s₃ hv => wpAny_mono hv (fun e s₄ ⟨q, k', f', ex', wd⟩ => ?_) fun _ _ q => q) fun _ _ q => q
      subst q
      have fin' : GotB A f s e e s₄ := ⟨rfl, (k.trans k₂).trans k', f', (ex.trans ex₂).trans ex', wd⟩
      cases e with
      | true => exact fin'
      | false => exact wpAny_allTrue_Or_nil fin'
  · cases h

theorem notL_parts (ok : Γ.Ok) (ao : AOk Γ.lvl A) {i : Nat} {d : D} (h : (match ρ i with | some (.list xs) => if xs.length ≤ lim then some (D.bool xs.isEmpty) else none | _ => none) = some d) (cx : Cx Γ.tab Γ.h₁ A env kinds ρ f Av s) {pi : Pos} {Q : Bool → Shared → Prop}
    (hQ : ∀ b s₁ f₁, d = .bool (!b) → KeepS A s s₁ → Ext f f₁ → Cx Γ.tab Γ.h₁ A env kinds ρ f₁ Av s₁ → Q b s₁) :
    wpAny (model Γ.prog Γ.w) A (eval (.Name (Γ.tab i) pi) env) (fun v s₁ => wpAny (model Γ.prog Γ.w) A (truthy v) Q E s₁) E s := by
  split at h
  · rename_i xs hx
    split at h
    · rename_i hsz
      cases h
      refine wpAny_mono (var_sound ok.T cx hx) (fun v s₁ ⟨k, f₁, ex, wd, r⟩ => ?_) fun _ _ q => q
      have cx₁ := cx.keep k ex wd
      obtain ⟨l, its, rfl, _, hl, r⟩ := r
      have hlen := r.length
      rw [Array.length_toList] at hlen
      have hlim : ((lim : Nat) : Int) = 1000000 := rfl
      refine wpAny_truthy_list hl (by omega) (hQ _ _ f₁ ?_ (k.trans .tok) ex (cx₁.keep .tok (.refl _) (cx₁.wd.mono (by dsimp only; omega))))
      rw [Bool.not_not]
      cases xs with
      | nil =>
        have e : its = #[] := by simpa using hlen
        subst e; rfl
      | cons x xs =>
        have : its.isEmpty = false := by
          cases h : its.isEmpty with
          | false => rfl
          | true => rw [Array.isEmpty_iff_size_eq_zero] at h; rw [h] at hlen; cases hlen
        rw [this]; rfl
    · cases h
  · cases h
theorem se_notL (ok : Γ.Ok) {i : Nat} {pi p : Pos} : SE Γ kinds (.notL i pi p) := fun ρ d h A env s f Av E ao cx => by
  simp only [ev_e1, ev_e2, ev_e3, ev_e4, ev_e5, ev_e6, ev_e7, ev_e8, ev_e9, ev_e10, ev_e11, ev_e12, ev_e13, ev_e14, ev_e15, ev_e16, ev_e17, ev_e18, ev_e19, ev_e20, ev_e21, ev_e22, ev_e23, ev_e24, ev_e25, ev_e26, ev_e27, ev_e28] at h
  refine wpAny_UnaryOp (wpAny_mono (notL_parts (E := E) (pi := pi) ok ao h cx (Q := fun b s₁ => Got A f Av s d (.bool (!b)) s₁) fun b s₁ f₁ hd k ex cx₁ => ?_) (fun v s₁ hv => PyProof.Rows.not_of hv) fun _ _ q => q)
  rw [hd]; exact (Got.bool .refl cx₁.wd (Nat.le_refl _)).trans k ex
theorem sb_notL (ok : Γ.Ok) {i : Nat} {pi p : Pos} : SB Γ kinds (.notL i pi p) := fun ρ t h A env s f Av E ao cx => by
  have h := boolOf_inv h
  simp only [ev_e1, ev_e2, ev_e3, ev_e4, ev_e5, ev_e6, ev_e7, ev_e8, ev_e9, ev_e10, ev_e11, ev_e12, ev_e13, ev_e14, ev_e15, ev_e16, ev_e17, ev_e18, ev_e19, ev_e20, ev_e21, ev_e22, ev_e23, ev_e24, ev_e25, ev_e26, ev_e27, ev_e28] at h
  refine wpAny_isTrue_Not (wpAny_isTrue_value (notL_parts (E := E) (pi := pi) ok ao h cx fun b s₁ f₁ hd k ex cx₁ => ?_))
  cases hd
  exact ⟨rfl, k, f₁, ex, cx₁.wd⟩
end
end Mine
end

section
namespace Mine
open PySem PySem.W PyProof.Rows

mutual
theorem Rd.more {f : TokMap} {Av Av' : Addr → Prop} {h : Heap} (q : ∀ a, Av' a → Av a ∨ h.get? a = none) : ∀ (d : D) {v : Value}, Rd f Av h v d → Rd f Av' h v d
  | .none, _, r => r
  | .bool _, _, r => r
  | .int _, _, r => r
  | .raw _, _, r => r
  | .str _, _, r => r
  | .list ds, _, ⟨a, its, p, n, l, r⟩ => ⟨a, its, p, (fun y => (q a y).elim n fun e => by obtain ⟨o, ho, _⟩ := l; rw [e] at ho; cases ho), l, RdAll.more q ds r⟩
  | .tuple ds, _, ⟨a, its, p, l, r⟩ => ⟨a, its, p, l, RdAll.more q ds r⟩
theorem RdAll.more {f : TokMap} {Av Av' : Addr → Prop} {h : Heap} (q : ∀ a, Av' a → Av a ∨ h.get? a = none) : ∀ (ds : List D) {vs : List Value}, RdAll f Av h vs ds → RdAll f Av' h vs ds
  | [], _, r => r
  | d :: ds, _, ⟨v, ws, p, r, z⟩ => ⟨v, ws, p, Rd.more q d r, RdAll.more q ds z⟩
end

/-- an iterator stands, fresh, over the data -/
noncomputable def ItOk (prog : Program) (w : World) (A : Around) (target : Expr) (f : TokMap) (Av : Addr → Prop) (s : Shared) (ds : List D) (v : Value) (s₂ : Shared) : Prop :=
  KeepS A s s₂ ∧ ∃ (I : Addr) (fp : List Addr) (f' : TokMap), v = .ref I ∧ Ext f f' ∧ Wd f' s₂.toks ∧ (∀ b ∈ fp, (∃ o, s₂.heap.get? b = some o) ∧ s.heap.get? b = none) ∧
    ∀ Av' : Addr → Prop, (∀ a, Av' a → Av a ∨ s₂.heap.get? a = none) → ∃ St, Itr prog w A target Av' I fp ds St ∧ St 0 s₂.heap f'

noncomputable def isEnumIt : It → Bool
  | .enum .. => true
  | _ => false
noncomputable def SIt (Γ : Ctxt) (kinds : List (Str × NameKind)) (it : It) : Prop := ∀ (ρ : Vw) (ds : List D), evIt Γ.tab Γ.G it ρ = some ds → ∀ (A : Around) (env : Env) (s : Shared) (f : TokMap) (Av : Addr → Prop) (E : Value → Shared → Prop) (target : Expr),
  (isEnumIt it = true → ∃ elts k p, target = .Tuple elts k p) → AOk Γ.lvl A → Cx Γ.tab Γ.h₁ A env kinds ρ f Av s →
  wpAny (model Γ.prog Γ.w) A (eval (it.toE Γ.tab) env) (fun x s₁ => wpAny (model Γ.prog Γ.w) A (pyIter x) (ItOk Γ.prog Γ.w A target f Av s ds) E s₁) E s

section
variable {Γ : Ctxt} {kinds : List (Str × NameKind)} {A : Around} {env : Env} {s s₁ s₂ : Shared} {f f₁ f₂ : TokMap} {Av : Addr → Prop} {E : Value → Shared → Prop} {ρ : Vw} {a b c : C} {da db d : D}

theorem size_none (h : Heap) {b : Addr} (hb : h.objs.size ≤ b) : h.get? b = none := by
  cases e : h.get? b with
  | none => rfl
  | some o => exact absurd (Heap.lt_size e) (Nat.not_lt.mpr hb)
theorem keepS_none (k : KeepS A s s₁) {b : Addr} (h : s₁.heap.get? b = none) : s.heap.get? b = none := by
  cases e : s.heap.get? b with
  | none => rfl
  | some o => obtain ⟨o', e', _⟩ := k.keep b o (fun q => q) e; rw [h] at e'; cases e'

/-- a new iterator of one object -/
theorem itOk_new {prog : Program} {w : World} {target : Expr} {ds : List D} {I : Addr} (k : KeepS A s s₁) (ex : Ext f f₁) (wd : Wd f₁ s₁.toks) (h' : Heap) (hk : ∀ b o, s₁.heap.get? b = some o → h'.get? b = some o)
    (fp : List Addr) (hfp : ∀ b ∈ fp, (∃ o, h'.get? b = some o) ∧ s₁.heap.get? b = none)
    (h : ∀ Av' : Addr → Prop, (∀ a, Av' a → Av a ∨ h'.get? a = none) → ∃ St, Itr prog w A target Av' I fp ds St ∧ St 0 h' f₁) : ItOk prog w A target f Av s ds (.ref I) { s₁ with heap := h' } :=
  ⟨k.trans ⟨h', s₁.toks, rfl, .of_all hk⟩, I, fp, f₁, rfl, ex, wd, fun b hb => ⟨(hfp b hb).1, keepS_none k (hfp b hb).2⟩, h⟩

theorem sit_list_part {prog : Program} {w : World} {target : Expr} {v : Value} {xs : List D} (hh : A.handled = none) (k : KeepS A s s₁) (ex : Ext f f₁) (wd : Wd f₁ s₁.toks) (r : Rd f₁ Av s₁.heap v (.list xs)) :
    wpAny (model prog w) A (pyIter v) (ItOk prog w A target f Av s xs) E s₁ := by
  obtain ⟨l, its, rfl, hn, hl, r⟩ := r
  refine wpAny_pyIter_list hl (itOk_new k ex wd _ (fun b o e => Heap.get?_push_of_some _ e) [s₁.heap.objs.size] (fun b hb => ?_) fun Av' hAv => ?_)
  · rw [List.mem_singleton.mp hb]; exact ⟨⟨_, Heap.get?_push_size _ rfl⟩, size_none _ (Nat.le_refl _)⟩
  · have hl' : (s₁.heap.push { cls := .type "list_iterator", data := .fields #[.ref l, .int 0 0] }).IsList l its := hl.push _
    have hn' : ¬ Av' l := fun q => (hAv l q).elim hn fun e => by obtain ⟨o, ho, _⟩ := hl'; rw [e] at ho; cases ho
    refine ⟨_, itr_list hh hn', ⟨_, Heap.get?_push_size _ rfl, rfl, rfl⟩, hl', ?_⟩
    refine RdAll.more hAv xs (r.keep (A := A) (.of_all fun b o e => Heap.get?_push_of_some _ e) (.refl _))
theorem sit_str_part {prog : Program} {w : World} {target : Expr} {v : Value} {x : Str} (hh : A.handled = none) (k : KeepS A s s₁) (ex : Ext f f₁) (wd : Wd f₁ s₁.toks) (r : Rd f₁ Av s₁.heap v (.str x)) (hx : x.cps.toList.all (· < 128) = true) :
    wpAny (model prog w) A (pyIter v) (ItOk prog w A target f Av s (x.cps.toList.map fun c => .str ⟨#[c]⟩)) E s₁ := by
  obtain ⟨t, rfl, _, _, ok⟩ := r
  refine wpAny_pyIter_ascii (by rw [← Array.all_toList]; exact hx) (itOk_new k ex wd _ (fun b o e => Heap.get?_push_of_some _ e) [s₁.heap.objs.size] (fun b hb => ?_) fun Av' hAv => ?_)
  · rw [List.mem_singleton.mp hb]; exact ⟨⟨_, Heap.get?_push_size _ rfl⟩, size_none _ (Nat.le_refl _)⟩
  · exact ⟨_, itr_str hh ok, _, Heap.get?_push_size _ rfl, rfl, rfl⟩

theorem sit_of (ha : SE Γ kinds a) : SIt Γ kinds (.of a) := fun ρ ds h A env s f Av E target ht ao cx => by
  simp only [evIt_e1, evIt_e2, evIt_e3, evIt_e4] at h
  obtain ⟨x, hx, h⟩ := Option.bind_eq_some_iff.mp h
  refine one ha hx ao cx fun v s₁ f₁ k ex cx₁ r => ?_
  unfold itemsD at h
  split at h
  · split at h
    · cases h; exact sit_list_part ao.handled k ex cx₁.wd r
    · cases h
  · split at h
    · rename_i hc
      cases h
      rw [Bool.and_eq_true] at hc
      exact sit_str_part ao.handled k ex cx₁.wd r hc.1
    · cases h
  · cases h

theorem range_part {prog : Program} {w : World} {target : Expr} {x y : Int} {t u v : Tok} {r : Addr} {ds : List D} (hh : A.handled = none) (h : range2I x y = some ds) (k : KeepS A s s₁) (ex : Ext f f₁) (wd : Wd f₁ s₁.toks) (hr : IsRange s₁.heap r x y 1 t u v) :
    wpAny (model prog w) A (pyIter (.ref r)) (ItOk prog w A target f Av s ds) E s₁ := by
  unfold range2I at h
  split at h
  · rename_i hc
    cases h
    have hlim : ((lim : Nat) : Int) = 1000000 := rfl
    obtain ⟨h1, h2, h3, h4⟩ := hc
    refine wpAny_pyIter_range hr (small_one (by omega) (by omega) (by omega) (by omega)) (itOk_new k ex wd _ (fun b o e => Heap.get?_push_of_some _ e) [s₁.heap.objs.size] (fun b hb => ?_) fun Av' hAv => ?_)
    · rw [List.mem_singleton.mp hb]; exact ⟨⟨_, Heap.get?_push_size _ rfl⟩, size_none _ (Nat.le_refl _)⟩
    · refine ⟨_, itr_range hh x (y - x).toNat, ?_⟩
      have e : Builtin.Range.rangeSize x y 1 = ((y - x).toNat : Int) := by rw [rangeSize_one]; split <;> omega
      rw [e]
      simp only [Int.natCast_zero, Int.add_zero, Int.sub_zero]
      exact Heap.get?_push_size _ rfl
  · cases h

theorem sit_range1 (ok : Γ.Ok) {pf p : Pos} (hx : kinds.lookup ("range" : Str) = some .globalImplicit) (ha : SE Γ kinds a) : SIt Γ kinds (.range1 a pf p) := fun ρ ds h A env s f Av E target ht ao cx => by
  simp only [evIt_e1, evIt_e2, evIt_e3, evIt_e4] at h
  obtain ⟨x, hxa, h⟩ := Option.bind_eq_some_iff.mp h
  unfold range1D at h
  obtain ⟨n, hn, h⟩ := Option.bind_eq_some_iff.mp h
  refine call_type_args (r := .nil) ok cx hx (by unfold isBuiltinName; simp) boot_range' (by decide) (by decide)
    (ses_one ha hxa ao cx fun v s₁ f₁ k ex cx₁ r => ?_)
  obtain ⟨t, rfl⟩ := r.num hn
  refine call_range_1 ?_
  exact range_part ao.handled h (k.trans (keep_pushT _ _)) ex (cx₁.wd.mono (by dsimp only; omega)) (IsRange.new _ _ _ _ _ _ _)
theorem sit_range2 (ok : Γ.Ok) {pf p : Pos} (hx : kinds.lookup ("range" : Str) = some .globalImplicit) (ha : SE Γ kinds a) (hb : SE Γ kinds b) : SIt Γ kinds (.range2 a b pf p) := fun ρ ds h A env s f Av E target ht ao cx => by
  simp only [evIt_e1, evIt_e2, evIt_e3, evIt_e4] at h
  obtain ⟨x, hxa, h⟩ := Option.bind_eq_some_iff.mp h
  obtain ⟨y, hyb, h⟩ := Option.bind_eq_some_iff.mp h
  unfold range2D at h
  obtain ⟨n, hn, h⟩ := Option.bind_eq_some_iff.mp h
  obtain ⟨m, hm, h⟩ := Option.bind_eq_some_iff.mp h
  refine call_type_args (r := .cons b .nil) ok cx hx (by unfold isBuiltinName; simp) boot_range' (by decide) (by decide)
    (ses_two ha hb hxa hyb ao cx fun v u s₁ f₁ k ex cx₁ r r' => ?_)
  obtain ⟨t, rfl⟩ := r.num hn
  obtain ⟨t', rfl⟩ := r'.num hm
  refine call_range_2 ?_
  exact range_part ao.handled h (k.trans (keep_pushT _ _)) ex (cx₁.wd.mono (by dsimp only; omega)) (IsRange.new _ _ _ _ _ _ _)
theorem sit_enum (ok : Γ.Ok) {pf p : Pos} (hx : kinds.lookup ("enumerate" : Str) = some .globalImplicit) (ha : SE Γ kinds a) : SIt Γ kinds (.enum a pf p) := fun ρ ds h A env s f Av E target ht ao cx => by
  simp only [evIt_e1, evIt_e2, evIt_e3, evIt_e4] at h
  obtain ⟨x, hxa, h⟩ := Option.bind_eq_some_iff.mp h
  obtain ⟨elts, k0, p0, rfl⟩ := ht rfl
  refine call_type_args (r := .nil) ok cx hx (by unfold isBuiltinName; simp) boot_enum' (by decide) (by decide)
    (ses_one ha hxa ao cx fun v s₁ f₁ k ex cx₁ r => ?_)
  unfold enumD at h
  split at h
  · split at h
    · cases h
      obtain ⟨l, its, rfl, hn, hl, r⟩ := r
      refine call_enumerate_list hl fun h' he hit hsz hk => wpAny_pyIter_enum he (itOk_new k ex cx₁.wd h' hk [s₁.heap.objs.size + 1, s₁.heap.objs.size] (fun b hb => ?_) fun Av' hAv => ?_)
      · rcases List.mem_cons.mp hb with rfl | hb
        · exact ⟨⟨_, he⟩, size_none _ (Nat.le_succ _)⟩
        · rw [List.mem_singleton.mp hb]
          obtain ⟨o, ho, _⟩ := hit
          exact ⟨⟨o, ho⟩, size_none _ (Nat.le_refl _)⟩
      · have hl' : h'.IsList l its := let ⟨o, ho, x⟩ := hl; ⟨o, hk _ _ ho, x⟩
        have hn' : ¬ Av' l := fun q => (hAv l q).elim hn fun e => by obtain ⟨o, ho, _⟩ := hl'; rw [e] at ho; cases ho
        exact ⟨_, itr_enum ao.handled hn' (Nat.ne_of_gt (Nat.lt_succ_self _)), ⟨⟨.none, he⟩, hit, hl', RdAll.more hAv _ (r.keep (A := A) (.of_all hk) (.refl _))⟩⟩
    · cases h
  · cases h
end
end Mine
end

section
namespace Mine
open PySem PySem.W PyProof.Rows

noncomputable def Gs.targets : Gs → List Nat
  | .done => []
  | .gen t _ _ r => t.is ++ r.targets
noncomputable def isTup : Tgt → Bool
  | .tup .. => true
  | _ => false
noncomputable def SGs (Γ : Ctxt) (kinds : List (Str × NameKind)) (sc : Scope) : Gs → Prop
  | .done => True
  | .gen t it ifs r => SIt Γ kinds it ∧ SIfs Γ kinds ifs ∧ (isEnumIt it = true → isTup t = true) ∧ (∀ i ∈ t.is, ownName sc (Γ.tab i) = true ∧ storable kinds (Γ.tab i) = true) ∧ (∀ i ∈ t.is, i ∉ r.targets) ∧ SGs Γ kinds sc r

noncomputable def actOf (tab : Nat → Str) (e elt : Expr) : Gs → Nat → Value → Env → Sem Unit
  | .done, _, acc, env => actLast elt acc env
  | .gen _ it _ _, depth, acc, env => actMore e (it.toE tab) depth acc env

theorem fold_pure (tab : Nat → Str) (it : It) (env : Env) (x : Value) : foldedSetIterable (it.toE tab) env x = pure x := by
  cases it with
  | of a => cases a <;> rfl
  | _ => rfl
theorem drop_get {α : Type} {l : List α} {n : Nat} {x : α} {r : List α} (h : l.drop n = x :: r) : l[n]? = some x ∧ l.drop (n + 1) = r := by
  constructor
  · rw [← List.head?_drop, h]; rfl
  · rw [← List.tail_drop, h]; rfl
theorem drop_nil {α : Type} {l : List α} {n : Nat} (h : l.drop n = []) : l[n]? = none := by rw [← List.head?_drop, h]; rfl

theorem turn_of {tab : Nat → Str} {elt : Expr} {gens : List Comprehension} {sc : Scope} {pos : Pos} {depth : Nat} {t : Tgt} {it : It} {ifs : Cs} {r : Gs} (h : gens.drop depth = (Gs.gen t it ifs r).toE tab) (v acc : Value) (env : Env) :
    compTurn (.ListComp elt gens sc pos) depth v acc env = turnOf (.ListComp elt gens sc pos) (t.toE tab) (it.toE tab) (ifs.toE tab) (actOf tab (.ListComp elt gens sc pos) elt r depth acc env) depth v acc env := by
  obtain ⟨h1, h2⟩ := drop_get (show gens.drop depth = ⟨t.toE tab, it.toE tab, ifs.toE tab, 0⟩ :: r.toE tab from h)
  cases r with
  | done => exact compTurn_last h1 (drop_nil h2)
  | gen t' it' ifs' r' => exact compTurn_more h1 (drop_get (show gens.drop (depth + 1) = ⟨t'.toE tab, it'.toE tab, ifs'.toE tab, 0⟩ :: r'.toE tab from h2)).1

section
variable {Γ : Ctxt} {kinds : List (Str × NameKind)} {A : Around} {env : Env} {f f₁ f₂ : TokMap} {Av : Addr → Prop} {E : Value → Shared → Prop} {ρ : Vw} {sc : Scope} {dst : Addr}

theorem act_last {elt : C} (helt : SE Γ kinds elt) (ao : AOk Γ.lvl A) (hD : Γ.h₁.get? dst = none) (hAv : Av dst) {bs : List D} (h : ((ev Γ.tab Γ.G elt ρ).map fun x => [x]) = some bs) :
    ActOk Γ.prog Γ.w A Γ.tab Γ.h₁ env kinds Av (WB sc env dst) dst (actLast (elt.toE Γ.tab) (.ref dst) env) ρ bs := by
  intro s f its es cx hl r hsz E Q hQ
  obtain ⟨d, hd, rfl⟩ := Option.map_eq_some_iff.mp h
  unfold actLast
  refine wpAny_bind (withToks (one helt hd ao cx fun v s₁ f₁ k ex cx₁ rv => fun ht => ?_))
  obtain ⟨h₁', tk₁, rfl, kk⟩ := k
  have hl₁ : PlainL h₁' dst its := plKeep hl kk fun q => q.elim
  have hlen := r.length
  rw [Array.length_toList] at hlen
  refine wpAny_bind (list_append_plainL (s := { s with heap := h₁', toks := tk₁ }) hl₁ (fun h' hl' hs' => wpAny_pure ?_) ?_)
  · have kD : KeepX A (fun b => b = dst) h₁' h' := .of_but fun b o n e => hs'.extBut b o n e
    have wg : WGood Γ.h₁ Av (fun b => b = dst) h₁' h' := fun b hb => by
      subst hb
      obtain ⟨o, e1, c1, n1, d1⟩ := hl₁.isList
      obtain ⟨o', e2, c2, n2, d2⟩ := hl'.isList
      exact ⟨hD, .inr ⟨hAv, ⟨o, _, _, e1, c1, d1⟩, o', _, _, e2, c2, d2⟩⟩
    refine hQ h' tk₁ f₁ (its.push v) ht ex ((KeepX.of_keep kk).trans (kD.weaken fun b o e q => .inl q)) (Cx.keepG (s := { s with heap := h₁', toks := tk₁ }) cx₁ kD wg (.refl f₁) cx₁.wd) hl' ?_
    rw [Array.toList_push]
    exact RdAll.append (.one (Rd.keepX kD wg.clear (.refl f₁) d rv)) (RdAll.keepX kD wg.clear (.refl f₁) es (r.keep kk ex))
  · have := lim_le
    rw [List.length_append] at hsz
    omega

theorem base_none {h₁ h : Heap} (si : SI h₁ A h) {b : Addr} (e : h.get? b = none) : h₁.get? b = none := by
  cases q : h₁.get? b with
  | none => rfl
  | some o => rw [si.base b o q] at e; cases e

theorem isTup_toE {t : Tgt} {tab : Nat → Str} (h : isTup t = true) : ∃ elts k p, t.toE tab = .Tuple elts k p := by
  cases t with
  | one i p => cases h
  | tup is p => exact ⟨_, _, _, rfl⟩

/-- the loop over a clause, its iterator being made -/
theorem clause_sound (ok : Γ.Ok) (ao : AOk Γ.lvl A) {elt : Expr} {gens : List Comprehension} {pos : Pos} {depth : Nat} {t : Tgt} {it : It} {ifs : Cs} {r : Gs} (hg : gens.drop depth = (Gs.gen t it ifs r).toE Γ.tab)
    (h2 : SIfs Γ kinds ifs) (h4 : ∀ i ∈ t.is, ownName sc (Γ.tab i) = true ∧ storable kinds (Γ.tab i) = true) (h5 : ∀ i ∈ t.is, i ∉ r.targets) (hAv : Av dst) {F : Vw → Option (List D)} {s : Shared}
    (hact : ∀ ρ' bs, F ρ' = some bs → (∀ i d, ρ' i = some d → i ∉ r.targets) → ActOk Γ.prog Γ.w A Γ.tab Γ.h₁ env kinds Av (WB sc env dst) dst (actOf Γ.tab (.ListComp elt gens sc pos) elt r depth (.ref dst) env) ρ' bs)
    (hρ : ∀ i d, ρ i = some d → i ∉ (Gs.gen t it ifs r).targets)
    {ds bs : List D} (hc : collectM (fun d => (bindT t d ρ).bind fun ρ' => (evIfs Γ.tab Γ.G ifs ρ').bind fun ok => if ok then F ρ' else some []) ds = some bs)
    {I : Addr} {fp : List Addr} (hfp : ∀ b ∈ fp, Γ.h₁.get? b = none ∧ ¬ Av b) {St : Nat → Heap → TokMap → Prop} (itr : Itr Γ.prog Γ.w A (t.toE Γ.tab) Av I fp ds St)
    {its : Array Value} {es : List D} (st : St 0 s.heap f) (cx : Cx Γ.tab Γ.h₁ A env kinds ρ f Av s) (hl : PlainL s.heap dst its) (rr : RdAll f Av s.heap its.toList es) (hsz : (es ++ bs).length ≤ lim)
    {R : Result → Shared → Prop}
    (hR : ∀ h' tk f' its', s.toks ≤ tk → Ext f f' → KeepX A (fun b => WB sc env dst b ∨ b ∈ fp) s.heap h' → Cx Γ.tab Γ.h₁ A env kinds ρ f' Av { s with heap := h', toks := tk } → PlainL h' dst its' → RdAll f' Av h' its'.toList (es ++ bs) → R (.ok .next) { s with heap := h', toks := tk }) :
    codeAny (model Γ.prog Γ.w) A (.compStart (.ListComp elt gens sc pos) depth (.ref I) (.ref dst) env) R s := by
  have loop : codeAny (model Γ.prog Γ.w) A (.compLoop (.ListComp elt gens sc pos) depth (.ref I) (.ref dst) env) R s :=
    loop_sound (sc := sc) ok.T ao.handled (fun it => turn_of hg it (.ref dst) env) rfl rfl rfl h4 hAv hfp (evIfs Γ.tab Γ.G ifs)
      (fun ρ' b s f E Q hb cx hQ => withToks (wpAny_mono (h2 ρ' b hb A env s f Av E ao cx) (fun b' s' ⟨e, ⟨h', tk, e2, k⟩, f', ex, wd⟩ ht => by subst e e2; exact hQ h' tk f' ht ex wd k) fun _ _ q => q))
      F (fun i => i ∈ r.targets) (fun ρ' bs hb hd => hact ρ' bs hb hd) (fun i d hi => fun q => hρ i d hi (List.mem_append_left _ q)) (fun i d hi q => hρ i d hi (List.mem_append_right _ q)) h5 hc itr st cx hl rr hsz hR
  refine codeAny_start (drop_get hg).1 rfl loop (fun E' => itr.self 0 s f _ E' st loop) rfl rfl fun _ => rfl

theorem act_sound (ok : Γ.Ok) (ao : AOk Γ.lvl A) {elt : C} (helt : SE Γ kinds elt) (hD : Γ.h₁.get? dst = none) (hAv : Av dst) {gens : List Comprehension} {pos : Pos} : ∀ (g : Gs) (depth : Nat), gens.drop (depth + 1) = g.toE Γ.tab → SGs Γ kinds sc g →
    ∀ (ρ : Vw) (bs : List D), evGs Γ.tab Γ.G g (ev Γ.tab Γ.G elt) ρ = some bs → (∀ i d, ρ i = some d → i ∉ g.targets) →
    ActOk Γ.prog Γ.w A Γ.tab Γ.h₁ env kinds Av (WB sc env dst) dst (actOf Γ.tab (.ListComp (elt.toE Γ.tab) gens sc pos) (elt.toE Γ.tab) g depth (.ref dst) env) ρ bs
  | .done, depth, hg, hs, ρ, bs, h, hρ => act_last helt ao hD hAv (by simpa [evGs_e1, evGs_e2] using h)
  | .gen t it ifs r, depth, hg, hs, ρ, bs, h, hρ => by
    intro s f its es cx hl rr hsz E Q hQ
    simp only [evGs_e1, evGs_e2] at h
    obtain ⟨ds, hds, hc⟩ := Option.bind_eq_some_iff.mp h
    have hs' := hs
    obtain ⟨h1, h2, h3, h4, h5, h6⟩ := hs'
    show wpAny _ A (actMore _ (it.toE Γ.tab) depth (.ref dst) env) Q E s
    unfold actMore
    refine withToks ?_
    refine wpAny_bind (wpAny_mono (h1 ρ ds hds A env s f Av E (t.toE Γ.tab) (fun q => isTup_toE (h3 q)) ao cx) (fun x s₁ hx => ?_) fun _ _ q => q)
    refine wpAny_bind (wpAny_standAt (wpAny_bind (wpAny_of_eq (fold_pure Γ.tab it env x) (wpAny_bind (wpAny_holding (wpAny_mono hx (fun v s₂ hv => ?_) fun _ _ q => q))))))
    obtain ⟨k, I, fp, f', rfl, ex, wd, hfp, hit⟩ := hv
    obtain ⟨St, itr, st⟩ := hit Av fun a q => .inl q
    have cx₂ := cx.keep k ex wd
    have hl₂ : PlainL s₂.heap dst its := plKeep hl k.keep fun q => q.elim
    have r₂ := rr.keep k.keep ex
    obtain ⟨h₂, tk₂, rfl, kk⟩ := k
    have hfp' : ∀ b ∈ fp, Γ.h₁.get? b = none ∧ ¬ Av b := fun b hb => ⟨base_none cx.si (hfp b hb).2, fun q => by
      obtain ⟨o, e⟩ := cx.av b q
      rw [(hfp b hb).2] at e; cases e⟩
    refine wpAny_bind (wpAny_runOwn (clause_sound (s := { s with heap := h₂, toks := tk₂ }) ok ao hg h2 h4 h5 hAv (fun ρ' bs' hb hd => act_sound ok ao helt hD hAv r (depth + 1) (drop_get hg).2 h6 ρ' bs' hb hd) hρ hc hfp' itr st cx₂ hl₂ r₂ hsz
      (fun h' tk f'' its' t' ex' k' cx' hl' r' => wpAny_pure fun ht => ?_)))
    refine hQ h' tk f'' its' ht (ex.trans ex') ((KeepX.of_keep kk).trans' k' fun b o n e => ?_) cx' hl' r'
    rintro (q | q)
    · exact n q
    · rw [(hfp b q).2] at e; cases e
end
end Mine
end

section
namespace Mine
open PySem PySem.W PyProof.Rows

section
variable {Γ : Ctxt} {kinds : List (Str × NameKind)} {A : Around} {env : Env} {f f₁ f₂ : TokMap} {Av : Addr → Prop} {E : Value → Shared → Prop} {ρ : Vw} {sc : Scope} {dst : Addr}

theorem wfScope_parts (h : wfScope kinds sc = true) : sc.kind = .function ∧ (sc.names.map (·.1)).Nodup ∧ (∀ x ∈ sc.names, x.2 = .free → kinds.lookup x.1 = some .cell ∨ kinds.lookup x.1 = some .free) := by
  unfold wfScope at h
  simp only [Bool.and_eq_true, decide_eq_true_eq, List.all_eq_true] at h
  refine ⟨h.1.1, h.1.2, fun x hx e => ?_⟩
  have := h.2 x hx
  rw [e] at this
  simpa using this

/-- the block's frame stands -/
theorem block_cx {s₂ : Shared} {C : Addr} {H : Heap} (hw : wfScope kinds sc = true) (cx : Cx Γ.tab Γ.h₁ A env kinds ρ f Av s₂) (hd : s₂.heap.get? dst = none) (hd' : ∃ o, H.get? dst = some o) (hk : ∀ b o, s₂.heap.get? b = some o → H.get? b = some o)
    (hC : H.objs.size = C) (qual : Str) (code : Option Addr) :
    Cx Γ.tab Γ.h₁ A { scope := relabel sc env, locals := C, globals := env.globals, cells := cellsFrom (C + 1) sc.names (closL env sc.names []), qual := env.qual, func := none, code := env.code, frame := env.frame, builtins := env.builtins }
      (innerKinds kinds sc) (keepFree Γ.tab sc ρ) f (fun a => Av a ∨ a = dst) { s₂ with heap := pushCells (H.push { cls := .type "dict", data := .dict #[] }) sc.names } := by
  obtain ⟨w1, w2, w3⟩ := wfScope_parts hw
  have hkk : ∀ b o, s₂.heap.get? b = some o → (pushCells (H.push { cls := .type "dict", data := .dict #[] }) sc.names).get? b = some o := fun b o e => pushCells_keeps _ _ _ _ (Heap.get?_push_of_some _ (hk b o e))
  have keep : Keep A s₂.heap (pushCells (H.push { cls := .type "dict", data := .dict #[] }) sc.names) := .of_all hkk
  have hnew : ∀ b, C ≤ b → s₂.heap.get? b = none := fun b hb => by
    cases e : s₂.heap.get? b with
    | none => rfl
    | some o => exact absurd (hC ▸ Heap.lt_size (hk b o e)) (Nat.not_lt.mpr hb)
  have outer : ∀ n, (n, NameKind.free) ∈ sc.names → ∃ c v, env.cells.lookup n = some c ∧ s₂.heap.IsCell c v := fun n hn => by
    refine cx.ok.cells n ?_
    rw [kindOf_eq cx.ok]
    exact w3 _ hn rfl
  have hsize : (H.push { cls := .type "dict", data := .dict #[] }).objs.size = C + 1 := by rw [Heap.size_push, hC]
  have look : ∀ n k, sc.names.lookup n = some k → (innerKinds kinds sc).lookup n = some (if (k == .free && kinds.lookup n == some .cell) then .cell else k) := fun n k e => by
    unfold innerKinds; rw [inner_lookup, e]; rfl
  have freeCell : ∀ n, sc.names.lookup n = some .free → ∃ c v, (cellsFrom (C + 1) sc.names (closL env sc.names [])).lookup n = some c ∧ env.cells.lookup n = some c ∧ s₂.heap.IsCell c v := fun n e => by
    obtain ⟨c, v, h1, h2⟩ := outer n (mem_of_lookup e)
    refine ⟨c, v, ?_, h1, h2⟩
    rw [cellsFrom_lookup_other _ _ _ _ (fun x hx hxn hc => by
      have : sc.names.lookup n = some .cell := by rw [← hxn]; exact lookup_mem w2 (by rw [← hc]; exact hx)
      rw [e] at this; cases this), closL_lookup_free _ _ _ w2 e, h1]
    rfl
  refine ⟨cx.si.keep keep, ⟨?_, ?_, cx.ok.globals, cx.ok.builtins, ⟨fun _ => none, ?_⟩, ?_, ?_⟩, ?_, ?_, ?_, cx.wd, ?_⟩
  · show sc.kind = _; exact w1
  · exact relabel_names sc cx.ok.kind cx.ok.names
  · obtain ⟨o, es, ep, ho, r⟩ := Heap.Ns.new H (.type "dict")
    rw [hC] at ho
    exact ⟨o, es, ep, pushCells_keeps _ _ _ _ ho, r⟩
  · intro n hn
    have hn' : (innerKinds kinds sc).lookup n = some .cell ∨ (innerKinds kinds sc).lookup n = some .free := by
      unfold Env.kindOf at hn
      rw [show ({ scope := relabel sc env, locals := C, globals := env.globals, cells := cellsFrom (C + 1) sc.names (closL env sc.names []), qual := env.qual, func := none, code := env.code, frame := env.frame, builtins := env.builtins } : Env).scope.names = innerKinds kinds sc from relabel_names sc cx.ok.kind cx.ok.names] at hn
      exact hn
    cases e : sc.names.lookup n with
    | none => unfold innerKinds at hn'; rw [inner_lookup, e] at hn'; simp at hn'
    | some k =>
      rw [look n k e] at hn'
      by_cases hf : k = .free
      · subst hf
        obtain ⟨c, v, h1, _, h2⟩ := freeCell n e
        exact ⟨c, v, h1, let ⟨o, ho, hd⟩ := h2; ⟨o, hkk _ _ ho, hd⟩⟩
      · by_cases hc : k = .cell
        · subst hc
          obtain ⟨c, h1, _, h2⟩ := cellsFrom_lookup_own sc.names (H.push { cls := .type "dict", data := .dict #[] }) (closL env sc.names []) n w2 e
          rw [hsize] at h1
          exact ⟨c, none, h1, h2⟩
        · have : (k == NameKind.free) = false := by simpa using hf
          rw [this] at hn'
          simp at hn'
          rcases hn' with h | h
          · exact absurd h hc
          · exact absurd h hf
  · refine cellsFrom_apart _ _ _ (closL_apart (fun n n' c h1 h2 => ?_) _ _ w2 (fun x hx e => ?_) List.Pairwise.nil (fun x hx => absurd hx (by simp))) fun x hx => ?_
    · exact name_of_addr cx.ok.apart (mem_of_lookup h1) (mem_of_lookup h2)
    · obtain ⟨n, k⟩ := x
      have e' : k = .free := e
      subst e'
      obtain ⟨c, v, h1, _⟩ := outer n hx
      exact ⟨c, h1⟩
    · obtain ⟨n, c⟩ := x
      rcases closL_mem _ _ n c hx with h | ⟨h1, h2⟩
      · simp at h
      · obtain ⟨c', v, h3, o, ho, _⟩ := outer n h1
        rw [h3] at h2
        have h2' : c = c' := h2
        have := hC ▸ Heap.lt_size (hk _ _ ho)
        show c < C + 1
        rw [h2']
        exact Nat.lt_succ_of_lt this
  · exact base_none cx.si (hnew C (Nat.le_refl _))
  · intro n c hc
    rcases cellsFrom_mem _ _ _ n c (mem_of_lookup hc) with h | h
    · rcases closL_mem _ _ n c h with h | ⟨h1, h2⟩
      · simp at h
      · obtain ⟨c', v, h3, _⟩ := outer n h1
        rw [h3] at h2
        have h2' : c = c' := h2
        rw [h2']; exact cx.ce n c' h3
    · exact base_none cx.si (hnew c (Nat.le_of_succ_le h))
  · intro a ha
    rcases ha with ha | rfl
    · obtain ⟨o, e⟩ := cx.av a ha; exact ⟨o, hkk _ _ e⟩
    · obtain ⟨o, e⟩ := hd'; exact ⟨o, pushCells_keeps _ _ _ _ (Heap.get?_push_of_some _ e)⟩
  · intro i d hi
    unfold keepFree at hi
    split at hi
    · rename_i hfree
      obtain ⟨v, hv, hr⟩ := cx.rel i d hi
      refine ⟨v, ?_, ?_⟩
      · obtain ⟨c, v', h1, h2, _⟩ := freeCell _ hfree
        rcases hv with ⟨hloc, _⟩ | ⟨_, c', h3, h4⟩
        · rw [kindOf_eq cx.ok] at hloc
          rcases w3 _ (mem_of_lookup hfree) rfl with h | h
          · rw [hloc] at h; cases h
          · rw [hloc] at h; cases h
        · rw [h2] at h3; cases h3
          refine .inr ⟨?_, c, h1, let ⟨o, ho, hd⟩ := h4; ⟨o, hkk _ _ ho, hd⟩⟩
          have hk' := look _ _ hfree
          unfold Env.kindOf
          rw [show ({ scope := relabel sc env, locals := C, globals := env.globals, cells := cellsFrom (C + 1) sc.names (closL env sc.names []), qual := env.qual, func := none, code := env.code, frame := env.frame, builtins := env.builtins } : Env).scope.names = innerKinds kinds sc from relabel_names sc cx.ok.kind cx.ok.names, hk']
          split <;> simp
      · refine (Rd.more (fun a ha => ?_) d hr).keep keep (.refl f)
        exact ha.imp id fun e => by rw [e]; exact hd
    · cases hi

theorem inner_storable {x : Str} (h : ownName sc x = true) : storable (innerKinds kinds sc) x = true := by
  unfold ownName at h
  unfold storable innerKinds
  rw [inner_lookup]
  rw [Bool.or_eq_true] at h
  rcases h with h | h
  · have h' : sc.names.lookup x = some .local := by simpa using h
    rw [h']; rfl
  · have h' : sc.names.lookup x = some .cell := by simpa using h
    rw [h']; rfl

/-- a comprehension's block, with what follows it -/
theorem comp_core (ok : Γ.Ok) (ao : AOk Γ.lvl A) {elt : C} {t : Tgt} {it : It} {ifs : Cs} {r : Gs} {pos pos' : Pos} {s : Shared} (hw : wfScope kinds sc = true) (hit : SIt Γ kinds it) (hen : isEnumIt it = true → isTup t = true) (helt : SE Γ (innerKinds kinds sc) elt)
    (h2 : SIfs Γ (innerKinds kinds sc) ifs) (h4 : ∀ i ∈ t.is, ownName sc (Γ.tab i) = true) (h5 : ∀ i ∈ t.is, i ∉ r.targets) (h6 : SGs Γ (innerKinds kinds sc) sc r) (h7 : ∀ i ∈ r.targets, ownName sc (Γ.tab i) = true) (cx : Cx Γ.tab Γ.h₁ A env kinds ρ f Av s) {ds bs : List D} (hds : evIt Γ.tab Γ.G it ρ = some ds)
    (hc : collectM (fun d => (bindT t d (keepFree Γ.tab sc ρ)).bind fun ρ' => (evIfs Γ.tab Γ.G ifs ρ').bind fun ok => if ok then evGs Γ.tab Γ.G r (ev Γ.tab Γ.G elt) ρ' else some []) ds = some bs) (hsz : bs.length ≤ lim)
    {use : Option (Value → Sem Unit)} {Q : Value → Shared → Prop}
    (hQ : ∀ h' tk f' C dst its, s.toks ≤ tk → Ext f f' → Wd f' tk → Keep A s.heap h' → s.heap.get? C = none → C ≠ dst → (∃ m, h'.Ns C m) → s.heap.get? dst = none → PlainL h' dst its → RdAll f' (fun a => Av a ∨ a = dst) h' its.toList bs →
      compPost (model Γ.prog Γ.w) A E use Q (.ref dst) C (.ok .next) { s with heap := h', toks := tk }) :
    wpAny (model Γ.prog Γ.w) A (comprehension (.ListComp (elt.toE Γ.tab) ((Gs.gen t it ifs r).toE Γ.tab) sc pos) sc env pos' (newList []) false (eval (it.toE Γ.tab) env) use) Q E s := by
  obtain ⟨w1, w2, w3⟩ := wfScope_parts hw
  refine wpAny_comprehension_free (cl := closL env sc.names []) rfl (fun x => fold_pure Γ.tab it env x) (closureFor_eq fun x hx e => ?_) w1 (fun x hx e => ?_) ?_
  · obtain ⟨n, k⟩ := x
    have e' : k = .free := e
    subst e'
    obtain ⟨c, v, h1, _⟩ := cx.ok.cells n (by rw [kindOf_eq cx.ok]; exact w3 _ hx rfl)
    exact ⟨c, h1⟩
  · obtain ⟨n, k⟩ := x
    have e' : k = .local := e
    subst e'
    exact lookup_mem w2 hx
  refine withToks (wpAny_mono (hit ρ ds hds A env s f Av E (t.toE Γ.tab) (fun q => isTup_toE (hen q)) ao cx) (fun x s₁ hx ht₁ => ?_) fun _ _ q => q)
  refine withToks (wpAny_mono hx (fun v s₂ hv ht₂ => ?_) fun _ _ q => q)
  obtain ⟨k, I, fp, f', rfl, ex, wd, hfp, hitr⟩ := hv
  have cx₂ := cx.keep k ex wd
  obtain ⟨hh₂, tk₂, rfl, kk⟩ := k
  have htk : s.toks ≤ tk₂ := Nat.le_trans ht₁ ht₂
  refine wpAny_newObj_type (wpAny_blockEnv ?_)
  dsimp only
  have hnewL : ({ s with heap := hh₂, toks := tk₂ } : Shared).heap.get? hh₂.objs.size = none := size_none _ (Nat.le_refl _)
  generalize hH : hh₂.push { cls := .type "list", dict := none, data := .seq ([] : List Value).toArray } = H
  have hHl : H.get? hh₂.objs.size = some { cls := .type "list", dict := none, data := .seq ([] : List Value).toArray } := by rw [← hH]; exact Heap.get?_push_size _ rfl
  have hHk : ∀ b o, hh₂.get? b = some o → H.get? b = some o := fun b o e => by rw [← hH]; exact Heap.get?_push_of_some _ e
  have cx₃ := block_cx (s₂ := { s with heap := hh₂, toks := tk₂ }) (dst := hh₂.objs.size) (H := H) (C := H.objs.size) hw cx₂ hnewL ⟨_, hHl⟩ hHk rfl env.qual none
  have allK : ∀ b o, hh₂.get? b = some o → (pushCells (H.push { cls := .type "dict", data := .dict #[] }) sc.names).get? b = some o := fun b o e => pushCells_keeps _ _ _ _ (Heap.get?_push_of_some _ (hHk b o e))
  have hl₃ : PlainL (pushCells (H.push { cls := .type "dict", data := .dict #[] }) sc.names) hh₂.objs.size #[] := ⟨_, 0, pushCells_keeps _ _ _ _ (Heap.get?_push_of_some _ hHl), rfl, rfl, rfl⟩
  obtain ⟨St, itr, st⟩ := hitr (fun a => Av a ∨ a = hh₂.objs.size) fun a q => q.imp id fun e => by rw [e]; exact size_none _ (Nat.le_refl _)
  have st₃ : St 0 (pushCells (H.push { cls := .type "dict", data := .dict #[] }) sc.names) f' := by
    refine itr.frame 0 _ _ f' f' NoW st (.refl _) (.of_all (A := A) allK) clear_noW fun b hb => ⟨fun q => q.elim, ?_⟩
    obtain ⟨o, vs, e1, d1⟩ := itr.objs _ _ _ st b hb
    exact notFS_fields cx₂.si e1 d1
  have hnewC : hh₂.get? H.objs.size = none := size_none _ (by rw [← hH, Heap.size_push]; exact Nat.le_succ _)
  have oldNone : ∀ b, hh₂.get? b = none → s.heap.get? b = none := fun b e => by
    cases q : s.heap.get? b with
    | none => rfl
    | some o => obtain ⟨o', e', _⟩ := kk b o (fun q => q) q; rw [e] at e'; cases e'
  have hDC : H.objs.size ≠ hh₂.objs.size := by rw [← hH, Heap.size_push]; exact Nat.ne_of_gt (Nat.lt_succ_self _)
  refine clause_sound (s := { s with heap := pushCells (H.push { cls := .type "dict", data := .dict #[] }) sc.names, toks := tk₂ }) (t := t) (it := it) (ifs := ifs) (r := r) (depth := 0) (sc := sc) (Av := fun a => Av a ∨ a = hh₂.objs.size) (kinds := innerKinds kinds sc) (ρ := keepFree Γ.tab sc ρ)
    (F := fun ρ' => evGs Γ.tab Γ.G r (ev Γ.tab Γ.G elt) ρ') ok ao rfl h2 (fun i hi => ⟨h4 i hi, inner_storable (h4 i hi)⟩) h5 (.inr rfl)
    (fun ρ' bs' hb hd => act_sound ok ao helt (base_none cx₂.si (size_none _ (Nat.le_refl _))) (.inr rfl) r 0 rfl h6 ρ' bs' hb hd) (fun i d hi hmem => ?_) hc (fun b hb => ?_) itr st₃ cx₃ hl₃ (es := []) RdAll.nil (by simpa using hsz) ?_
  · -- the view's names are no targets
    have hown : ownName sc (Γ.tab i) = true := by
      rcases List.mem_append.mp hmem with q | q
      · exact h4 i q
      · exact h7 i q
    unfold keepFree at hi
    split at hi
    · rename_i hfree
      unfold ownName at hown
      rw [hfree] at hown
      cases hown
    · cases hi
  · refine ⟨base_none cx.si (hfp b hb).2, ?_⟩
    rintro (q | q)
    · obtain ⟨o, e⟩ := cx.av b q
      rw [(hfp b hb).2] at e; cases e
    · obtain ⟨⟨o, e⟩, _⟩ := hfp b hb
      exact absurd (Heap.lt_size e) (by rw [q]; exact Nat.lt_irrefl _)
  · intro h' tk f'' its' ht ex' k' cx' hl' r'
    have kAll : Keep A s.heap h' := by
      refine (kk.trans (.of_all allK)).trans' (KeepX.weaken k' (W' := fun b => s.heap.get? b = none) fun b o e q => ?_) (fun b o _ e => by rw [e]; exact fun q => by cases q)
      rcases q with q | q
      · rcases q with rfl | ⟨x, hx, q⟩
        · exact oldNone _ (size_none _ (Nat.le_refl _))
        · rcases q with ⟨_, rfl⟩ | ⟨hkd, hcl⟩
          · exact oldNone _ hnewC
          · have hown : sc.names.lookup x = some .cell := by
              unfold ownName at hx
              rw [Bool.or_eq_true] at hx
              rcases hx with hx | hx
              · have h' : sc.names.lookup x = some .local := by simpa using hx
                rw [kindOf_eq cx₃.ok] at hkd
                unfold innerKinds at hkd
                rw [inner_lookup, h'] at hkd
                cases hkd
              · simpa using hx
            obtain ⟨c, h1, h2', _⟩ := cellsFrom_lookup_own sc.names (H.push { cls := .type "dict", data := .dict #[] }) (closL env sc.names []) x w2 hown
            rw [Heap.size_push] at h1 h2'
            have hcl' : (cellsFrom (H.objs.size + 1) sc.names (closL env sc.names [])).lookup x = some b := hcl
            rw [h1] at hcl'
            cases hcl'
            refine oldNone _ (size_none _ ?_)
            have : H.objs.size = hh₂.objs.size + 1 := by rw [← hH, Heap.size_push]
            rw [this] at h2'
            exact Nat.le_trans (Nat.le_trans (Nat.le_succ _) (Nat.le_succ _)) h2'
      · exact (hfp b q).2
    refine hQ h' tk f'' H.objs.size hh₂.objs.size its' (Nat.le_trans htk ht) (ex.trans ex') cx'.wd kAll (oldNone _ hnewC) hDC cx'.ok.ns (oldNone _ (size_none _ (Nat.le_refl _))) hl' ?_
    simpa using r'

theorem se_comp (ok : Γ.Ok) {elt : C} {t : Tgt} {it : It} {ifs : Cs} {r : Gs} {pos : Pos} (hw : wfScope kinds sc = true) (hit : SIt Γ kinds it) (hen : isEnumIt it = true → isTup t = true) (helt : SE Γ (innerKinds kinds sc) elt)
    (h2 : SIfs Γ (innerKinds kinds sc) ifs) (h4 : ∀ i ∈ t.is, ownName sc (Γ.tab i) = true) (h5 : ∀ i ∈ t.is, i ∉ r.targets) (h6 : SGs Γ (innerKinds kinds sc) sc r) (h7 : ∀ i ∈ r.targets, ownName sc (Γ.tab i) = true) : SE Γ kinds (.comp elt (.gen t it ifs r) sc pos) := fun ρ d h A env s f Av E ao cx => by
  simp only [ev_e1, ev_e2, ev_e3, ev_e4, ev_e5, ev_e6, ev_e7, ev_e8, ev_e9, ev_e10, ev_e11, ev_e12, ev_e13, ev_e14, ev_e15, ev_e16, ev_e17, ev_e18, ev_e19, ev_e20, ev_e21, ev_e22, ev_e23, ev_e24, ev_e25, ev_e26, ev_e27, ev_e28] at h
  obtain ⟨ds, hds, h⟩ := Option.bind_eq_some_iff.mp h
  obtain ⟨bs, hc, h⟩ := Option.bind_eq_some_iff.mp h
  obtain ⟨hsz, rfl⟩ := mkList_inv h
  show wpAny _ A (eval (.ListComp (elt.toE Γ.tab) ((Gs.gen t it ifs r).toE Γ.tab) sc pos) env) _ E s
  rw [eval_ListComp]
  refine comp_core (use := none) ok ao hw hit hen helt h2 h4 h5 h6 h7 cx hds hc hsz fun h' tk f' C dst its ht ex wd k hC hCD hn hd hl r => ?_
  replace r : RdAll f' Av h' its.toList bs := RdAll.weaken (fun a q => .inl q) _ r
  obtain ⟨m, hn⟩ := hn
  refine ⟨m, hn, fun h'' hs => ?_⟩
  have kC : KeepX A (fun b => b = C) h' h'' := .of_but fun b o n e => hs.extBut b o n e
  have clC : Clear (fun b => b = C) Av h' := fun b o xs n hb e d => by
    subst hb
    obtain ⟨o', es, ep, ho, hd', _⟩ := hn
    rw [ho] at e; cases e
    rw [hd'] at d; cases d
  refine ⟨⟨h'', tk, rfl, k.trans' kC fun b o _ e q => by rw [q, hC] at e; cases e⟩, f', ex, wd, dst, its, rfl, fun q => ?_, Heap.IsList.keepX hl.isList kC (Ne.symm hCD), RdAll.keepX kC clC (.refl f') _ r⟩
  obtain ⟨o, e⟩ := cx.av dst q
  rw [hd] at e; cases e
end
end Mine
end

section
namespace Mine
open PySem PySem.W PyProof.Rows

noncomputable def glob (K : List (Str × NameKind)) (x : Str) : Bool := K.lookup x == some .globalImplicit
noncomputable def notNil : Cs → Bool
  | .nil => false
  | _ => true
mutual
noncomputable def wfC (tab : Nat → Str) : C → List (Str × NameKind) → Bool
  | .int .., _ => true
  | .str s _, _ => false
  | .bool .., _ => true
  | .var .., _ => true
  | .nothing, _ => true
  | .list es _, K => wfCs tab es K
  | .tuple es _, K => false
  | .bin _ a b _, K => wfC tab a K && wfC tab b K
  | .neg a _, K => wfC tab a K
  | .not a _, K => wfC tab a K
  | .notL .., _ => true
  | .cmp _ a b _, K => wfC tab a K && wfC tab b K
  | .and2 a b _, K => wfC tab a K && wfC tab b K
  | .and3 a b c _, K => wfC tab a K && wfC tab b K && wfC tab c K
  | .or2 a b _, K => wfC tab a K && wfC tab b K
  | .isOrEq .., _ => true
  | .ite t a b _, K => wfC tab t K && wfC tab a K && wfC tab b K
  | .item a i _, K => wfC tab a K && wfC tab i K
  | .slice a lo hi st _ _, K => wfC tab a K && wfC tab lo K && wfC tab hi K && wfC tab st K && partC lo && partC hi && partC st
  | .call i args _ _, K => glob K (tab i) && notNil args && wfCs tab args K
  | .sum a _ _, K => glob K "sum" && wfC tab a K
  | .len a _ _, K => glob K "len" && wfC tab a K
  | .max1 a _ _, K => false
  | .min2 a b _ _, K => false
  | .join a b pm p, K => false
  | .index a b pm p, K => false
  | .comp elt g sc _, K => match g with
    | .done => false
    | .gen t it ifs r => wfScope K sc && wfIt tab it K && (!isEnumIt it || isTup t) && wfC tab elt (innerKinds K sc) && wfCs tab ifs (innerKinds K sc) && t.is.all (fun i => ownName sc (tab i) && !r.targets.contains i) &&
        wfGs tab sc r (innerKinds K sc) && r.targets.all (fun i => ownName sc (tab i))
noncomputable def wfCs (tab : Nat → Str) : Cs → List (Str × NameKind) → Bool
  | .nil, _ => true
  | .cons c r, K => wfC tab c K && wfCs tab r K
noncomputable def wfGs (tab : Nat → Str) (sc : Scope) : Gs → List (Str × NameKind) → Bool
  | .done, _ => true
  | .gen t it ifs r, K => wfIt tab it K && (!isEnumIt it || isTup t) && wfCs tab ifs K && t.is.all (fun i => ownName sc (tab i) && storable K (tab i) && !r.targets.contains i) && wfGs tab sc r K
noncomputable def wfIt (tab : Nat → Str) : It → List (Str × NameKind) → Bool
  | .range1 a _ _, K => glob K "range" && wfC tab a K
  | .range2 a b _ _, K => glob K "range" && wfC tab a K && wfC tab b K
  | .enum a _ _, K => glob K "enumerate" && wfC tab a K
  | .of a, K => wfC tab a K
end


section
variable {tab : Nat → Str}
theorem wfC_e1 {q1 q2 q3} : wfC tab (.int q1 q2) q3 = (true) := rfl
theorem wfC_e2 {s q1 q2} : wfC tab (.str s q1) q2 = (false) := rfl
theorem wfC_e3 {q1 q2 q3} : wfC tab (.bool q1 q2) q3 = (true) := rfl
theorem wfC_e4 {q1 q2 q3} : wfC tab (.var q1 q2) q3 = (true) := rfl
theorem wfC_e5 {q1} : wfC tab .nothing q1 = (true) := rfl
theorem wfC_e6 {es q1 K} : wfC tab (.list es q1) K = (wfCs tab es K) := rfl
theorem wfC_e7 {es q1 K} : wfC tab (.tuple es q1) K = (false) := rfl
theorem wfC_e8 {q1 a b q2 K} : wfC tab (.bin q1 a b q2) K = (wfC tab a K && wfC tab b K) := rfl
theorem wfC_e9 {a q1 K} : wfC tab (.neg a q1) K = (wfC tab a K) := rfl
theorem wfC_e10 {a q1 K} : wfC tab (.not a q1) K = (wfC tab a K) := rfl
theorem wfC_e11 {q1 q2 q3 q4} : wfC tab (.notL q1 q2 q3) q4 = (true) := rfl
theorem wfC_e12 {q1 a b q2 K} : wfC tab (.cmp q1 a b q2) K = (wfC tab a K && wfC tab b K) := rfl
theorem wfC_e13 {a b q1 K} : wfC tab (.and2 a b q1) K = (wfC tab a K && wfC tab b K) := rfl
theorem wfC_e14 {a b c q1 K} : wfC tab (.and3 a b c q1) K = (wfC tab a K && wfC tab b K && wfC tab c K) := rfl
theorem wfC_e15 {a b q1 K} : wfC tab (.or2 a b q1) K = (wfC tab a K && wfC tab b K) := rfl
theorem wfC_e16 {q1 q2 q3 q4 q5 q6 q7 q8 q9 q10} : wfC tab (.isOrEq q1 q2 q3 q4 q5 q6 q7 q8 q9) q10 = (true) := rfl
theorem wfC_e17 {t a b q1 K} : wfC tab (.ite t a b q1) K = (wfC tab t K && wfC tab a K && wfC tab b K) := rfl
theorem wfC_e18 {a i q1 K} : wfC tab (.item a i q1) K = (wfC tab a K && wfC tab i K) := rfl
theorem wfC_e19 {a lo hi st q1 q2 K} : wfC tab (.slice a lo hi st q1 q2) K = (wfC tab a K && wfC tab lo K && wfC tab hi K && wfC tab st K && partC lo && partC hi && partC st) := rfl
theorem wfC_e20 {i args q1 q2 K} : wfC tab (.call i args q1 q2) K = (glob K (tab i) && notNil args && wfCs tab args K) := rfl
theorem wfC_e21 {a q1 q2 K} : wfC tab (.sum a q1 q2) K = (glob K "sum" && wfC tab a K) := rfl
theorem wfC_e22 {a q1 q2 K} : wfC tab (.len a q1 q2) K = (glob K "len" && wfC tab a K) := rfl
theorem wfC_e23 {a q1 q2 K} : wfC tab (.max1 a q1 q2) K = (false) := rfl
theorem wfC_e24 {a b q1 q2 K} : wfC tab (.min2 a b q1 q2) K = (false) := rfl
theorem wfC_e25 {a b pm p K} : wfC tab (.join a b pm p) K = (false) := rfl
theorem wfC_e26 {a b pm p K} : wfC tab (.index a b pm p) K = (false) := rfl
theorem wfC_e27 {elt sc q1 K} : wfC tab (.comp elt .done sc q1) K = (false) := rfl
theorem wfC_e28 {elt t it ifs r sc q1 K} : wfC tab (.comp elt (.gen t it ifs r) sc q1) K = (wfScope K sc && wfIt tab it K && (!isEnumIt it || isTup t) && wfC tab elt (innerKinds K sc) && wfCs tab ifs (innerKinds K sc) && t.is.all (fun i => ownName sc (tab i) && !r.targets.contains i) &&
        wfGs tab sc r (innerKinds K sc) && r.targets.all (fun i => ownName sc (tab i))) := rfl
theorem wfCs_e1 {q1} : wfCs tab .nil q1 = (true) := rfl
theorem wfCs_e2 {c r K} : wfCs tab (.cons c r) K = (wfC tab c K && wfCs tab r K) := rfl
theorem wfIt_e1 {a q1 q2 K} : wfIt tab (.range1 a q1 q2) K = (glob K "range" && wfC tab a K) := rfl
theorem wfIt_e2 {a b q1 q2 K} : wfIt tab (.range2 a b q1 q2) K = (glob K "range" && wfC tab a K && wfC tab b K) := rfl
theorem wfIt_e3 {a q1 q2 K} : wfIt tab (.enum a q1 q2) K = (glob K "enumerate" && wfC tab a K) := rfl
theorem wfIt_e4 {a K} : wfIt tab (.of a) K = (wfC tab a K) := rfl
theorem wfGs_e1 {sc : Scope} {q1} : wfGs tab sc .done q1 = (true) := rfl
theorem wfGs_e2 {sc : Scope} {t it ifs r K} : wfGs tab sc (.gen t it ifs r) K = (wfIt tab it K && (!isEnumIt it || isTup t) && wfCs tab ifs K && t.is.all (fun i => ownName sc (tab i) && storable K (tab i) && !r.targets.contains i) && wfGs tab sc r K) := rfl
end
theorem glob_eq {K : List (Str × NameKind)} {x : Str} (h : glob K x = true) : K.lookup x = some .globalImplicit := by unfold glob at h; simpa using h

section
variable {Γ : Ctxt} (ok : Γ.Ok)
include ok
mutual
theorem soundC : ∀ (c : C) (K : List (Str × NameKind)), wfC Γ.tab c K = true → SE Γ K c ∧ SB Γ K c
  | .int n p, K, h => ⟨se_int n p, sb_plain rfl (se_int n p)⟩
  | .str n p, K, h => nomatch (show false = true from h)
  | .bool n p, K, h => ⟨se_bool n p, sb_plain rfl (se_bool n p)⟩
  | .var i p, K, h => ⟨se_var ok i p, sb_plain rfl (se_var ok i p)⟩
  | .nothing, K, h => ⟨se_nothing, sb_plain rfl se_nothing⟩
  | .list es p, K, h => by
    have e := soundCs es K (by simpa [wfC_e1, wfC_e2, wfC_e3, wfC_e4, wfC_e5, wfC_e6, wfC_e7, wfC_e8, wfC_e9, wfC_e10, wfC_e11, wfC_e12, wfC_e13, wfC_e14, wfC_e15, wfC_e16, wfC_e17, wfC_e18, wfC_e19, wfC_e20, wfC_e21, wfC_e22, wfC_e23, wfC_e24, wfC_e25, wfC_e26, wfC_e27, wfC_e28] using h)
    exact ⟨se_list e.1, sb_plain rfl (se_list e.1)⟩
  | .tuple es p, K, h => nomatch (show false = true from h)
  | .bin o a b p, K, h => by
    simp only [wfC_e1, wfC_e2, wfC_e3, wfC_e4, wfC_e5, wfC_e6, wfC_e7, wfC_e8, wfC_e9, wfC_e10, wfC_e11, wfC_e12, wfC_e13, wfC_e14, wfC_e15, wfC_e16, wfC_e17, wfC_e18, wfC_e19, wfC_e20, wfC_e21, wfC_e22, wfC_e23, wfC_e24, wfC_e25, wfC_e26, wfC_e27, wfC_e28, Bool.and_eq_true] at h
    have e := se_bin (o := o) (p := p) (soundC a K h.1).1 (soundC b K h.2).1
    exact ⟨e, sb_plain rfl e⟩
  | .neg a p, K, h => by
    simp only [wfC_e1, wfC_e2, wfC_e3, wfC_e4, wfC_e5, wfC_e6, wfC_e7, wfC_e8, wfC_e9, wfC_e10, wfC_e11, wfC_e12, wfC_e13, wfC_e14, wfC_e15, wfC_e16, wfC_e17, wfC_e18, wfC_e19, wfC_e20, wfC_e21, wfC_e22, wfC_e23, wfC_e24, wfC_e25, wfC_e26, wfC_e27, wfC_e28] at h
    have e := se_neg (p := p) (soundC a K h).1
    exact ⟨e, sb_plain rfl e⟩
  | .not a p, K, h => by
    simp only [wfC_e1, wfC_e2, wfC_e3, wfC_e4, wfC_e5, wfC_e6, wfC_e7, wfC_e8, wfC_e9, wfC_e10, wfC_e11, wfC_e12, wfC_e13, wfC_e14, wfC_e15, wfC_e16, wfC_e17, wfC_e18, wfC_e19, wfC_e20, wfC_e21, wfC_e22, wfC_e23, wfC_e24, wfC_e25, wfC_e26, wfC_e27, wfC_e28] at h
    exact ⟨se_not (soundC a K h).1, sb_not (soundC a K h).2⟩
  | .notL i pi p, K, h => ⟨se_notL ok, sb_notL ok⟩
  | .cmp o a b p, K, h => by
    simp only [wfC_e1, wfC_e2, wfC_e3, wfC_e4, wfC_e5, wfC_e6, wfC_e7, wfC_e8, wfC_e9, wfC_e10, wfC_e11, wfC_e12, wfC_e13, wfC_e14, wfC_e15, wfC_e16, wfC_e17, wfC_e18, wfC_e19, wfC_e20, wfC_e21, wfC_e22, wfC_e23, wfC_e24, wfC_e25, wfC_e26, wfC_e27, wfC_e28, Bool.and_eq_true] at h
    exact ⟨se_cmp (soundC a K h.1).1 (soundC b K h.2).1, sb_cmp (soundC a K h.1).1 (soundC b K h.2).1⟩
  | .and2 a b p, K, h => by
    simp only [wfC_e1, wfC_e2, wfC_e3, wfC_e4, wfC_e5, wfC_e6, wfC_e7, wfC_e8, wfC_e9, wfC_e10, wfC_e11, wfC_e12, wfC_e13, wfC_e14, wfC_e15, wfC_e16, wfC_e17, wfC_e18, wfC_e19, wfC_e20, wfC_e21, wfC_e22, wfC_e23, wfC_e24, wfC_e25, wfC_e26, wfC_e27, wfC_e28, Bool.and_eq_true] at h
    exact ⟨se_and2 (soundC a K h.1).1 (soundC b K h.2).1, sb_and2 (soundC a K h.1).2 (soundC b K h.2).2⟩
  | .and3 a b c p, K, h => by
    simp only [wfC_e1, wfC_e2, wfC_e3, wfC_e4, wfC_e5, wfC_e6, wfC_e7, wfC_e8, wfC_e9, wfC_e10, wfC_e11, wfC_e12, wfC_e13, wfC_e14, wfC_e15, wfC_e16, wfC_e17, wfC_e18, wfC_e19, wfC_e20, wfC_e21, wfC_e22, wfC_e23, wfC_e24, wfC_e25, wfC_e26, wfC_e27, wfC_e28, Bool.and_eq_true] at h
    exact ⟨se_and3 (soundC a K h.1.1).1 (soundC b K h.1.2).1 (soundC c K h.2).1, sb_and3 (soundC a K h.1.1).2 (soundC b K h.1.2).2 (soundC c K h.2).2⟩
  | .or2 a b p, K, h => by
    simp only [wfC_e1, wfC_e2, wfC_e3, wfC_e4, wfC_e5, wfC_e6, wfC_e7, wfC_e8, wfC_e9, wfC_e10, wfC_e11, wfC_e12, wfC_e13, wfC_e14, wfC_e15, wfC_e16, wfC_e17, wfC_e18, wfC_e19, wfC_e20, wfC_e21, wfC_e22, wfC_e23, wfC_e24, wfC_e25, wfC_e26, wfC_e27, wfC_e28, Bool.and_eq_true] at h
    exact ⟨se_or2 (soundC a K h.1).1 (soundC b K h.2).1, sb_or2 (soundC a K h.1).2 (soundC b K h.2).2⟩
  | .isOrEq i j pi pj qi qj p1 p2 p, K, h => ⟨se_isOrEq ok, sb_isOrEq ok⟩
  | .ite t a b p, K, h => by
    simp only [wfC_e1, wfC_e2, wfC_e3, wfC_e4, wfC_e5, wfC_e6, wfC_e7, wfC_e8, wfC_e9, wfC_e10, wfC_e11, wfC_e12, wfC_e13, wfC_e14, wfC_e15, wfC_e16, wfC_e17, wfC_e18, wfC_e19, wfC_e20, wfC_e21, wfC_e22, wfC_e23, wfC_e24, wfC_e25, wfC_e26, wfC_e27, wfC_e28, Bool.and_eq_true] at h
    exact ⟨se_ite (soundC t K h.1.1).2 (soundC a K h.1.2).1 (soundC b K h.2).1, sb_ite (soundC t K h.1.1).2 (soundC a K h.1.2).2 (soundC b K h.2).2⟩
  | .item a i p, K, h => by
    simp only [wfC_e1, wfC_e2, wfC_e3, wfC_e4, wfC_e5, wfC_e6, wfC_e7, wfC_e8, wfC_e9, wfC_e10, wfC_e11, wfC_e12, wfC_e13, wfC_e14, wfC_e15, wfC_e16, wfC_e17, wfC_e18, wfC_e19, wfC_e20, wfC_e21, wfC_e22, wfC_e23, wfC_e24, wfC_e25, wfC_e26, wfC_e27, wfC_e28, Bool.and_eq_true] at h
    have e := se_item (p := p) (soundC a K h.1).1 (soundC i K h.2).1
    exact ⟨e, sb_plain rfl e⟩
  | .slice a lo hi st ps p, K, h => by
    simp only [wfC_e1, wfC_e2, wfC_e3, wfC_e4, wfC_e5, wfC_e6, wfC_e7, wfC_e8, wfC_e9, wfC_e10, wfC_e11, wfC_e12, wfC_e13, wfC_e14, wfC_e15, wfC_e16, wfC_e17, wfC_e18, wfC_e19, wfC_e20, wfC_e21, wfC_e22, wfC_e23, wfC_e24, wfC_e25, wfC_e26, wfC_e27, wfC_e28, Bool.and_eq_true] at h
    obtain ⟨⟨⟨⟨⟨⟨h1, h2⟩, h3⟩, h4⟩, p1⟩, p2⟩, p3⟩ := h
    have e := se_slice (ps := ps) (p := p) p1 p2 p3 (soundC a K h1).1 (soundC lo K h2).1 (soundC hi K h3).1 (soundC st K h4).1
    exact ⟨e, sb_plain rfl e⟩
  | .call i args pf p, K, h => by
    simp only [wfC_e1, wfC_e2, wfC_e3, wfC_e4, wfC_e5, wfC_e6, wfC_e7, wfC_e8, wfC_e9, wfC_e10, wfC_e11, wfC_e12, wfC_e13, wfC_e14, wfC_e15, wfC_e16, wfC_e17, wfC_e18, wfC_e19, wfC_e20, wfC_e21, wfC_e22, wfC_e23, wfC_e24, wfC_e25, wfC_e26, wfC_e27, wfC_e28, Bool.and_eq_true] at h
    cases args with
    | nil => cases h.1.2
    | cons a r =>
      have e := se_call (pf := pf) (p := p) ok (glob_eq h.1.1) (soundCs (.cons a r) K h.2).1
      exact ⟨e, sb_plain rfl e⟩
  | .sum a pf p, K, h => by
    simp only [wfC_e1, wfC_e2, wfC_e3, wfC_e4, wfC_e5, wfC_e6, wfC_e7, wfC_e8, wfC_e9, wfC_e10, wfC_e11, wfC_e12, wfC_e13, wfC_e14, wfC_e15, wfC_e16, wfC_e17, wfC_e18, wfC_e19, wfC_e20, wfC_e21, wfC_e22, wfC_e23, wfC_e24, wfC_e25, wfC_e26, wfC_e27, wfC_e28, Bool.and_eq_true] at h
    have e := se_sum (pf := pf) (p := p) ok (glob_eq h.1) (soundC a K h.2).1
    exact ⟨e, sb_plain rfl e⟩
  | .len a pf p, K, h => by
    simp only [wfC_e1, wfC_e2, wfC_e3, wfC_e4, wfC_e5, wfC_e6, wfC_e7, wfC_e8, wfC_e9, wfC_e10, wfC_e11, wfC_e12, wfC_e13, wfC_e14, wfC_e15, wfC_e16, wfC_e17, wfC_e18, wfC_e19, wfC_e20, wfC_e21, wfC_e22, wfC_e23, wfC_e24, wfC_e25, wfC_e26, wfC_e27, wfC_e28, Bool.and_eq_true] at h
    have e := se_len (pf := pf) (p := p) ok (glob_eq h.1) (soundC a K h.2).1
    exact ⟨e, sb_plain rfl e⟩
  | .max1 a pf p, K, h => nomatch (show false = true from h)
  | .min2 a b pf p, K, h => nomatch (show false = true from h)
  | .join a b pm p, K, h => nomatch (show false = true from h)
  | .index a b pm p, K, h => nomatch (show false = true from h)
  | .comp elt .done sc p, K, h => by simp [wfC_e1, wfC_e2, wfC_e3, wfC_e4, wfC_e5, wfC_e6, wfC_e7, wfC_e8, wfC_e9, wfC_e10, wfC_e11, wfC_e12, wfC_e13, wfC_e14, wfC_e15, wfC_e16, wfC_e17, wfC_e18, wfC_e19, wfC_e20, wfC_e21, wfC_e22, wfC_e23, wfC_e24, wfC_e25, wfC_e26, wfC_e27, wfC_e28] at h
  | .comp elt (.gen t it ifs r) sc p, K, h => by
    simp only [wfC_e1, wfC_e2, wfC_e3, wfC_e4, wfC_e5, wfC_e6, wfC_e7, wfC_e8, wfC_e9, wfC_e10, wfC_e11, wfC_e12, wfC_e13, wfC_e14, wfC_e15, wfC_e16, wfC_e17, wfC_e18, wfC_e19, wfC_e20, wfC_e21, wfC_e22, wfC_e23, wfC_e24, wfC_e25, wfC_e26, wfC_e27, wfC_e28, Bool.and_eq_true, List.all_eq_true, Bool.or_eq_true, Bool.not_eq_true'] at h
    obtain ⟨⟨⟨⟨⟨⟨⟨h1, h2⟩, h3⟩, h4⟩, h5⟩, h6⟩, h7⟩, h8⟩ := h
    have e := se_comp (pos := p) ok h1 (soundIt it K h2) (fun q => h3.elim (fun z => by rw [q] at z; cases z) id) (soundC elt _ h4).1 (soundCs ifs _ h5).2 (fun i hi => (h6 i hi).1) (fun i hi q => by
      have := (h6 i hi).2; rw [List.contains_iff_mem.mpr q] at this; cases this) (soundGs sc r _ h7) h8
    exact ⟨e, sb_plain rfl e⟩
theorem soundCs : ∀ (cs : Cs) (K : List (Str × NameKind)), wfCs Γ.tab cs K = true → SEs Γ K cs ∧ SIfs Γ K cs
  | .nil, K, h => ⟨ses_nil, sifs_nil⟩
  | .cons c r, K, h => by
    simp only [wfCs_e1, wfCs_e2, Bool.and_eq_true] at h
    exact ⟨ses_cons (soundC c K h.1).1 (soundCs r K h.2).1, sifs_cons (soundC c K h.1).2 (soundCs r K h.2).2⟩
theorem soundGs (sc : Scope) : ∀ (g : Gs) (K : List (Str × NameKind)), wfGs Γ.tab sc g K = true → SGs Γ K sc g
  | .done, K, h => trivial
  | .gen t it ifs r, K, h => by
    simp only [wfGs_e1, wfGs_e2, Bool.and_eq_true, List.all_eq_true, Bool.or_eq_true, Bool.not_eq_true'] at h
    obtain ⟨⟨⟨⟨h1, h2⟩, h3⟩, h4⟩, h5⟩ := h
    exact ⟨soundIt it K h1, (soundCs ifs K h3).2, fun q => h2.elim (fun z => by rw [q] at z; cases z) id, fun i hi => (h4 i hi).1, (fun i hi q => by
      have := (h4 i hi).2; rw [List.contains_iff_mem.mpr q] at this; cases this), soundGs sc r K h5⟩
theorem soundIt : ∀ (it : It) (K : List (Str × NameKind)), wfIt Γ.tab it K = true → SIt Γ K it
  | .range1 a pf p, K, h => by
    simp only [wfIt_e1, wfIt_e2, wfIt_e3, wfIt_e4, Bool.and_eq_true] at h
    exact sit_range1 ok (glob_eq h.1) (soundC a K h.2).1
  | .range2 a b pf p, K, h => by
    simp only [wfIt_e1, wfIt_e2, wfIt_e3, wfIt_e4, Bool.and_eq_true] at h
    exact sit_range2 ok (glob_eq h.1.1) (soundC a K h.1.2).1 (soundC b K h.2).1
  | .enum a pf p, K, h => by
    simp only [wfIt_e1, wfIt_e2, wfIt_e3, wfIt_e4, Bool.and_eq_true] at h
    exact sit_enum ok (glob_eq h.1) (soundC a K h.2).1
  | .of a, K, h => by
    simp only [wfIt_e1, wfIt_e2, wfIt_e3, wfIt_e4] at h
    exact sit_of (soundC a K h).1
end
end
end Mine
end

section
namespace Mine
open PySem PySem.W PyProof.Rows

/-! list operations that turn a list of this frame's own -/
theorem plainL_update {h : Heap} {l : Addr} {its : Array Value} (p : PlainL h l its) (g : Array Value → Array Value) : PlainL (h.update l (Obj.mapSeq g)) l (g its) := by
  obtain ⟨o, n, ho, hc, hdn, hd⟩ := p
  obtain ⟨n', hd'⟩ := Obj.data_mapSeq hd g
  refine ⟨_, n', Heap.get?_update_self _ ho (Obj.isFreed_of_seq hd'), (Obj.cls_mapSeq ..).trans hc, ?_, hd'⟩
  obtain ⟨c, d, dt, sl⟩ := o
  subst hd
  exact hdn

section
variable {prog : Program} {w : World} {A : Around} {E : Value → Shared → Prop} {s : Shared}

theorem setitem_plain {l : Addr} {its : Array Value} {k : Int} {t : Tok} {v : Value} {Q : Unit → Shared → Prop} (p : PlainL s.heap l its) (h0 : 0 ≤ k) (hfit : k < 2 ^ 63) (hn : k < its.size)
    (hQ : ∀ h', PlainL h' l (its.setIfInBounds k.toNat v) → Heap.SameBut l s.heap h' → Q () { s with heap := h' }) :
    wpAny (model prog w) A (setItem (.ref l) (.int k t) v) Q E s := by
  have p' := p
  obtain ⟨o, ne, ho, hc, hdn, hd⟩ := p
  have hT : s.TypeIs (.ref l) "list" := ⟨o, ho, hc⟩
  unfold setItem
  try with_reducible refine wpAny_holding ?_
  first | refine wpAny_bind (wpAny_pure ?_) | skip
  refine wpAny_bind (wpAny_sequenceKey hT (by decide) ?_)
  refine wpAny_bind (wpAny_callSpecial?_slot (name := Str.ofString "__setitem__") hT slot_list_setitem
    (wpAny_call_entry slot_list_setitem hT entry_list_setitem ?_ (args_list_setitem _ _ _)))
  show wpAny _ _ (Builtin.List.listSubscript? (.int k t) >>= _) _ _ s
  refine wpAny_bind (wpAny_listSubscript_int (fitsIndex_of h0 hfit) ?_)
  clear hfit
  obtain ⟨j, rfl⟩ := Int.eq_ofNat_of_zero_le h0
  have hj : j < its.size := by omega
  have hx' : its[j]? = some its[j] := Array.getElem?_eq_getElem hj
  show wpAny _ _ ((seqItemAt l j >>= fun r => pure (r.map (j, ·))) >>= _) _ _ s
  refine wpAny_bind (wpAny_bind (wpAny_seqItemAt ho hd (wpAny_pure ?_)))
  rw [hx']
  show wpAny _ _ (setSeqItemAt l j v >>= _) _ _ s
  have hfin := hQ _ (plainL_update p' (·.setIfInBounds j v)) (Heap.SameBut.update ..)
  refine wpAny_bind (wpAny_setSeqItemAt ho hd ?_)
  first
    | exact wpAny_bind (wpAny_pure (wpAny_pure ⟨.none, rfl, wpAny_pure hfin⟩))
    | exact wpAny_pure ⟨.none, rfl, wpAny_pure hfin⟩
end

/-! the state between statements -/
noncomputable def AvOf (Av₀ : Addr → Prop) (own : Nat → Option Addr) : Addr → Prop := fun a => Av₀ a ∨ ∃ i, own i = some a

structure SC (Γ : Ctxt) (A : Around) (env : Env) (kinds : List (Str × NameKind)) (Av₀ : Addr → Prop) (own : Nat → Option Addr) (σ : St) (f : TokMap) (s : Shared) : Prop where
  si : SI Γ.h₁ A s.heap
  ok : EnvOk env kinds s.heap
  lo : Γ.h₁.get? env.locals = none
  ce : ∀ n c, env.cells.lookup n = some c → Γ.h₁.get? c = none
  av : ∀ a, Av₀ a → ∃ o, s.heap.get? a = some o
  wd : Wd f s.toks
  fz : ∀ i d, σ i = some (false, d) → ∃ v, VarAt env s.heap (Γ.tab i) v ∧ Rd f (AvOf Av₀ own) s.heap v d
  ow : ∀ i d, σ i = some (true, d) → ∃ l its ds, d = .list ds ∧ own i = some l ∧ VarAt env s.heap (Γ.tab i) (.ref l) ∧ PlainL s.heap l its ∧ RdAll f (AvOf Av₀ own) s.heap its.toList ds
  nw : ∀ i l, own i = some l → Γ.h₁.get? l = none ∧ ¬ Av₀ l ∧ ∃ its, PlainL s.heap l its
  inj : ∀ i j l, own i = some l → own j = some l → i = j
  fr : ∃ outer L, A.frames = some (env :: outer) ∧ env.frame = some L

section
variable {Γ : Ctxt} {kinds : List (Str × NameKind)} {A : Around} {env : Env} {s s₁ : Shared} {f f₁ : TokMap} {Av₀ : Addr → Prop} {own : Nat → Option Addr} {σ : St}

theorem frozen_inv {i : Nat} {d : D} (h : σ.frozen i = some d) : σ i = some (false, d) := by
  unfold St.frozen at h
  split at h
  · rename_i h'; cases h; exact h'
  · cases h
theorem SC.frozen (x : SC Γ A env kinds Av₀ own σ f s) : Cx Γ.tab Γ.h₁ A env kinds σ.frozen f (AvOf Av₀ own) s :=
  ⟨x.si, x.ok, x.lo, x.ce, fun a q => q.elim (x.av a) fun ⟨i, q⟩ => let ⟨_, _, its, o, n, e, _⟩ := x.nw i a q; ⟨o, e⟩, x.wd, fun i d h => x.fz i d (frozen_inv h)⟩
theorem SC.full (x : SC Γ A env kinds Av₀ own σ f s) : Cx Γ.tab Γ.h₁ A env kinds σ.full f Av₀ s :=
  ⟨x.si, x.ok, x.lo, x.ce, x.av, x.wd, fun i d h => by
    unfold St.full at h
    obtain ⟨⟨b, d'⟩, h1, h2⟩ := Option.map_eq_some_iff.mp h
    have h2' : d' = d := h2
    subst h2'
    cases b with
    | false => obtain ⟨v, h3, h4⟩ := x.fz i _ h1; exact ⟨v, h3, Rd.weaken (fun a q => .inl q) _ h4⟩
    | true =>
      obtain ⟨l, its, ds, rfl, h3, h4, h5, h6⟩ := x.ow i _ h1
      exact ⟨.ref l, h4, l, its, rfl, (x.nw i l h3).2.1, h5.isList, RdAll.weaken (fun a q => .inl q) _ h6⟩⟩

theorem SC.keep (x : SC Γ A env kinds Av₀ own σ f s) (k : KeepS A s s₁) (e : Ext f f₁) (w : Wd f₁ s₁.toks) : SC Γ A env kinds Av₀ own σ f₁ s₁ :=
  ⟨x.si.keep k.keep, x.ok.keep k.keep, x.lo, x.ce, fun a q => let ⟨o, e⟩ := x.av a q; let ⟨o', e', _⟩ := k.keep a o (fun q => q) e; ⟨o', e'⟩, w,
    fun i d h => let ⟨v, a, b⟩ := x.fz i d h; ⟨v, a.keep k.keep, b.keep k.keep e⟩,
    fun i d h => let ⟨l, its, ds, a, b, c, p, r⟩ := x.ow i d h; ⟨l, its, ds, a, b, c.keep k.keep, plKeep p k.keep (fun q => q), r.keep k.keep e⟩,
    fun i l h => let ⟨a, b, its, p⟩ := x.nw i l h; ⟨a, b, its, plKeep p k.keep (fun q => q)⟩, x.inj, x.fr⟩

theorem ws_noPlain {h : Heap} {l : Addr} {its : Array Value} (ok : EnvOk env kinds h) (p : PlainL h l its) {x : Str} : ¬ WS env x l := ws_list ok p.isList

/-- a name takes a frozen value -/
noncomputable def drop1 (own : Nat → Option Addr) (i : Nat) : Nat → Option Addr := fun j => if j = i then none else own j
theorem drop1_some {i j : Nat} {l : Addr} (h : drop1 own i j = some l) : own j = some l ∧ j ≠ i := by
  unfold drop1 at h
  split at h
  · cases h
  · exact ⟨h, ‹_›⟩
theorem avOf_drop1 {i : Nat} {a : Addr} (h : AvOf Av₀ (drop1 own i) a) : AvOf Av₀ own a := h.imp id fun ⟨j, q⟩ => ⟨j, (drop1_some q).1⟩

theorem SC.storeF (ok : Γ.Ok) (x : SC Γ A env kinds Av₀ own σ f s) {i : Nat} {v : Value} {d : D} (hr : Rd f (AvOf Av₀ (drop1 own i)) s.heap v d) (hk : storable kinds (Γ.tab i) = true) {E : Value → Shared → Prop} {Q : Unit → Shared → Prop}
    (hQ : ∀ h' tk, s.toks ≤ tk → KeepX A (WS env (Γ.tab i)) s.heap h' → SC Γ A env kinds Av₀ (drop1 own i) (upd σ i (false, d)) f { s with heap := h', toks := tk } → Q () { s with heap := h', toks := tk }) :
    wpAny (model Γ.prog Γ.w) A (storeName env (Γ.tab i) v) Q E s := by
  refine store_sound x.ok (storable_or hk) fun h' tk ht k hw ok' hv ho => hQ h' tk ht k ?_
  have cl : ∀ Av : Addr → Prop, Clear (WS env (Γ.tab i)) Av s.heap := fun Av => ws_clear x.ok _
  refine ⟨x.si.keepX k (fun b o hb e => ?_) hw, ok', x.lo, x.ce, fun a ha => ?_, x.wd.mono ht, fun j dj hj => ?_, fun j dj hj => ?_, fun j l hj => ?_, fun j j' l h1 h2 => x.inj j j' l (drop1_some h1).1 (drop1_some h2).1, x.fr⟩
  · rcases hb with ⟨_, rfl⟩ | ⟨_, hc⟩
    · rw [x.lo] at e; cases e
    · rw [x.ce _ _ hc] at e; cases e
  · obtain ⟨o, e⟩ := x.av a ha
    by_cases q : WS env (Γ.tab i) a
    · obtain ⟨o', e', _⟩ := hw a q; exact ⟨o', e'⟩
    · obtain ⟨o', e', _⟩ := k a o q e; exact ⟨o', e'⟩
  · unfold upd at hj
    by_cases q : j = i
    · subst q
      rw [if_pos rfl] at hj
      cases hj
      exact ⟨v, hv, Rd.keepX k (cl _) (.refl f) d hr⟩
    · rw [if_neg q] at hj
      obtain ⟨u, hu, hru⟩ := x.fz j dj hj
      exact ⟨u, ho _ _ (fun e => q (ok.T.inj _ _ e)) hu, Rd.weaken (fun a => avOf_drop1) _ (Rd.keepX k (cl _) (.refl f) dj hru)⟩
  · unfold upd at hj
    by_cases q : j = i
    · subst q
      rw [if_pos rfl] at hj
      cases hj
    · rw [if_neg q] at hj
      obtain ⟨l, its, ds, a, b, c, p, r⟩ := x.ow j dj hj
      refine ⟨l, its, ds, a, by unfold drop1; rw [if_neg q]; exact b, ho _ _ (fun e => q (ok.T.inj _ _ e)) c, plKeep p k (ws_noPlain x.ok p), ?_⟩
      exact RdAll.weaken (fun a => avOf_drop1) _ (RdAll.keepX k (cl _) (.refl f) ds r)
  · obtain ⟨a, b, its, p⟩ := x.nw j l (drop1_some hj).1
    exact ⟨a, b, its, plKeep p k (ws_noPlain x.ok p)⟩

/-- a name takes a new list of its own -/
noncomputable def put1 (own : Nat → Option Addr) (i : Nat) (l : Addr) : Nat → Option Addr := fun j => if j = i then some l else own j
theorem SC.storeOK (ok : Γ.Ok) (x : SC Γ A env kinds Av₀ own σ f s) {i : Nat} {s₀ : Shared} {f₀ : TokMap} {l : Addr} {its : Array Value} {ds : List D} (k0 : KeepS A s s₀) (ex0 : Ext f f₀) (wd0 : Wd f₀ s₀.toks) (hnone : s.heap.get? l = none) (hpl : PlainL s₀.heap l its)
    (hr : RdAll f₀ (AvOf Av₀ (put1 own i l)) s₀.heap its.toList ds) (hk : storable kinds (Γ.tab i) = true) {E : Value → Shared → Prop} {Q : Unit → Shared → Prop}
    (hQ : ∀ h' tk, s₀.toks ≤ tk → KeepX A (WS env (Γ.tab i)) s.heap h' → KeepX A (WS env (Γ.tab i)) s₀.heap h' → SC Γ A env kinds Av₀ (put1 own i l) (upd σ i (true, .list ds)) f₀ { s₀ with heap := h', toks := tk } → Q () { s₀ with heap := h', toks := tk }) :
    wpAny (model Γ.prog Γ.w) A (storeName env (Γ.tab i) (.ref l)) Q E s₀ := by
  have x₁ := x.keep k0 ex0 wd0
  have hav : ∀ a, AvOf Av₀ (put1 own i l) a → AvOf Av₀ own a ∨ s.heap.get? a = none := fun a q => by
    rcases q with q | ⟨j, q⟩
    · exact .inl (.inl q)
    · unfold put1 at q
      split at q
      · cases q; exact .inr hnone
      · exact .inl (.inr ⟨j, q⟩)
  refine store_sound x₁.ok (storable_or hk) fun h' tk ht k hw ok' hv ho => hQ h' tk ht ((KeepX.of_keep k0.keep).trans k) k ?_
  have cl : ∀ Av : Addr → Prop, Clear (WS env (Γ.tab i)) Av s₀.heap := fun Av => ws_clear x₁.ok _
  refine ⟨x₁.si.keepX k (fun b o hb e => ?_) hw, ok', x.lo, x.ce, fun a ha => ?_, x₁.wd.mono ht, fun j dj hj => ?_, fun j dj hj => ?_, fun j a hj => ?_, fun j j' a h1 h2 => ?_, x.fr⟩
  · rcases hb with ⟨_, rfl⟩ | ⟨_, hc⟩
    · rw [x.lo] at e; cases e
    · rw [x.ce _ _ hc] at e; cases e
  · obtain ⟨o, e⟩ := x₁.av a ha
    by_cases q : WS env (Γ.tab i) a
    · obtain ⟨o', e', _⟩ := hw a q; exact ⟨o', e'⟩
    · obtain ⟨o', e', _⟩ := k a o q e; exact ⟨o', e'⟩
  · unfold upd at hj
    by_cases q : j = i
    · subst q
      rw [if_pos rfl] at hj
      cases hj
    · rw [if_neg q] at hj
      obtain ⟨u, hu, hru⟩ := x.fz j dj hj
      exact ⟨u, ho _ _ (fun e => q (ok.T.inj _ _ e)) (hu.keep k0.keep), Rd.keepX k (cl _) (.refl _) dj ((Rd.more hav _ hru).keep k0.keep ex0)⟩
  · unfold upd at hj
    by_cases q : j = i
    · subst q
      rw [if_pos rfl] at hj
      cases hj
      exact ⟨l, its, ds, rfl, by unfold put1; rw [if_pos rfl], hv, plKeep hpl k (ws_noPlain x₁.ok hpl), RdAll.keepX k (cl _) (.refl _) ds hr⟩
    · rw [if_neg q] at hj
      obtain ⟨a, its, ds', e1, b, c, p, r⟩ := x.ow j dj hj
      have p' := plKeep p k0.keep (fun q => q)
      refine ⟨a, its, ds', e1, by unfold put1; rw [if_neg q]; exact b, ho _ _ (fun e => q (ok.T.inj _ _ e)) (c.keep k0.keep), plKeep p' k (ws_noPlain x₁.ok p'), ?_⟩
      exact RdAll.keepX k (cl _) (.refl _) ds' ((RdAll.more hav _ r).keep k0.keep ex0)
  · unfold put1 at hj
    split at hj
    · cases hj
      refine ⟨base_none x.si hnone, fun q => ?_, its, plKeep hpl k (ws_noPlain x₁.ok hpl)⟩
      obtain ⟨o, e⟩ := x.av _ q
      rw [hnone] at e; cases e
    · obtain ⟨a1, b, its, p⟩ := x.nw j a hj
      have p' := plKeep p k0.keep (fun q => q)
      exact ⟨a1, b, its, plKeep p' k (ws_noPlain x₁.ok p')⟩
  · have old : ∀ j, own j ≠ some l := fun j q => by
      obtain ⟨_, _, its, o, n, e, _⟩ := x.nw j l q
      rw [hnone] at e; cases e
    unfold put1 at h1 h2
    split at h1
    · cases h1
      split at h2
      · rw [‹j = i›, ‹j' = i›]
      · exact absurd h2 (old _)
    · split at h2
      · cases h2
        exact absurd h1 (old _)
      · exact x.inj j j' a h1 h2
theorem SC.storeOG (ok : Γ.Ok) (x : SC Γ A env kinds Av₀ own σ f s) {i : Nat} {h₀ : Heap} {l : Addr} {its : Array Value} {ds : List D} (hk0 : ∀ b o, s.heap.get? b = some o → h₀.get? b = some o) (hnone : s.heap.get? l = none) (hpl : PlainL h₀ l its)
    (hr : RdAll f (AvOf Av₀ own) s.heap its.toList ds) (hk : storable kinds (Γ.tab i) = true) {E : Value → Shared → Prop} {Q : Unit → Shared → Prop}
    (hQ : ∀ h' tk, s.toks ≤ tk → KeepX A (WS env (Γ.tab i)) s.heap h' → SC Γ A env kinds Av₀ (put1 own i l) (upd σ i (true, .list ds)) f { s with heap := h', toks := tk } → Q () { s with heap := h', toks := tk }) :
    wpAny (model Γ.prog Γ.w) A (storeName env (Γ.tab i) (.ref l)) Q E { s with heap := h₀ } := by
  have k0 : KeepS A s { s with heap := h₀ } := .of (tk := s.toks) hk0
  refine SC.storeOK ok x k0 (.refl f) x.wd hnone hpl ((RdAll.more (fun a q => ?_) _ hr).keep k0.keep (.refl f)) hk (fun h' tk ht k _ z => hQ h' tk ht k z)
  rcases q with q | ⟨j, q⟩
  · exact .inl (.inl q)
  · unfold put1 at q
    split at q
    · cases q; exact .inr hnone
    · exact .inl (.inr ⟨j, q⟩)
theorem SC.storeO (ok : Γ.Ok) (x : SC Γ A env kinds Av₀ own σ f s) {i : Nat} {vs : List Value} {ds : List D} (hr : RdAll f (AvOf Av₀ own) s.heap vs ds) (hk : storable kinds (Γ.tab i) = true) {E : Value → Shared → Prop} {Q : Unit → Shared → Prop}
    (hQ : ∀ h' tk, s.toks ≤ tk → KeepX A (WS env (Γ.tab i)) s.heap h' → SC Γ A env kinds Av₀ (put1 own i s.heap.objs.size) (upd σ i (true, .list ds)) f { s with heap := h', toks := tk } → Q () { s with heap := h', toks := tk }) :
    wpAny (model Γ.prog Γ.w) A (storeName env (Γ.tab i) (.ref s.heap.objs.size)) Q E { s with heap := s.heap.push { cls := .type "list", data := .seq vs.toArray } } :=
  SC.storeOG ok x (its := vs.toArray) (fun b o e => Heap.get?_push_of_some _ e) (size_none _ (Nat.le_refl _)) ⟨_, 0, Heap.get?_push_size _ rfl, rfl, rfl, rfl⟩ hr hk hQ

/-- an own list turns -/
theorem SC.turn (x : SC Γ A env kinds Av₀ own σ f s) {i : Nat} {l : Addr} {its' : Array Value} {ds' : List D} {h' : Heap} (hi : ∃ d, σ i = some (true, d)) (ho : own i = some l) (hs : Heap.SameBut l s.heap h') (hp : PlainL h' l its')
    (hr : RdAll f (AvOf Av₀ own) s.heap its'.toList ds') : SC Γ A env kinds Av₀ own (upd σ i (true, .list ds')) f { s with heap := h' } := by
  have k : KeepX A (fun b => b = l) s.heap h' := .of_but fun b o n e => hs.extBut b o n e
  obtain ⟨nl, navl, its, p⟩ := x.nw i l ho
  have wg : WGood Γ.h₁ (AvOf Av₀ own) (fun b => b = l) s.heap h' := fun b hb => by
    subst hb
    obtain ⟨o, n, e, c, _, d⟩ := p
    obtain ⟨o', n', e', c', _, d'⟩ := hp
    exact ⟨nl, .inr ⟨.inr ⟨i, ho⟩, ⟨o, _, _, e, c, d⟩, o', _, _, e', c', d'⟩⟩
  obtain ⟨d0, hd0⟩ := hi
  refine ⟨x.si.keepG k wg, x.ok.keepG k wg, x.lo, x.ce, fun a ha => ?_, x.wd, fun j dj hj => ?_, fun j dj hj => ?_, fun j a hj => ?_, x.inj, x.fr⟩
  · obtain ⟨o, e⟩ := x.av a ha
    obtain ⟨o', e', _⟩ := k a o (fun q => navl (q ▸ ha)) e
    exact ⟨o', e'⟩
  · unfold upd at hj
    by_cases q : j = i
    · subst q; rw [if_pos rfl] at hj; cases hj
    · rw [if_neg q] at hj
      obtain ⟨u, hu, hru⟩ := x.fz j dj hj
      exact ⟨u, hu.keepG k wg, Rd.keepX k wg.clear (.refl f) dj hru⟩
  · unfold upd at hj
    by_cases q : j = i
    · subst q
      rw [if_pos rfl] at hj; cases hj
      obtain ⟨l', its₀, ds₀, _, b, c, _⟩ := x.ow j d0 hd0
      rw [ho] at b; cases b
      exact ⟨l, its', ds', rfl, ho, c.keepG k wg, hp, RdAll.keepX k wg.clear (.refl f) _ hr⟩
    · rw [if_neg q] at hj
      obtain ⟨a, its₀, ds₀, e1, b, c, p₀, r⟩ := x.ow j dj hj
      refine ⟨a, its₀, ds₀, e1, b, c.keepG k wg, plKeep p₀ k fun e => q (x.inj j i l (e ▸ b) ho), RdAll.keepX k wg.clear (.refl f) _ r⟩
  · obtain ⟨a1, b, its₀, p₀⟩ := x.nw j a hj
    by_cases e : a = l
    · subst e; exact ⟨a1, b, its', hp⟩
    · exact ⟨a1, b, its₀, plKeep p₀ k e⟩
end
end Mine
end

section
namespace Mine
open PySem PySem.W PyProof.Rows

noncomputable def FlOk (f : TokMap) (Av₀ : Addr → Prop) (h : Heap) : Fl → Flow → Prop
  | .next, fl => fl = .next
  | .brk, fl => fl = .brk
  | .ret d, fl => ∃ v, fl = .ret v ∧ Rd f Av₀ h v d
/-- what a statement may turn -/
noncomputable def WSt (env : Env) (own : Nat → Option Addr) : Addr → Prop := fun b => (∃ x, WS env x b) ∨ ∃ i, own i = some b
noncomputable def SOut (Γ : Ctxt) (A : Around) (env : Env) (kinds : List (Str × NameKind)) (Av₀ : Addr → Prop) (own : Nat → Option Addr) (s : Shared) (f : TokMap) (σ' : St) (fl : Fl) (flow : Flow) (s' : Shared) : Prop :=
  Ex4 fun (own' : Nat → Option Addr) (f' : TokMap) (h' : Heap) (tk : Nat) => And7 (s' = { s with heap := h', toks := tk }) (s.toks ≤ tk) (Ext f f') (SC Γ A env kinds Av₀ own' σ' f' s') (KeepX A (WSt env own) s.heap h') (∀ i l, own' i = some l → (∃ j, own j = some l) ∨ s.heap.get? l = none) (FlOk f' Av₀ h' fl flow)

noncomputable def SX (Γ : Ctxt) (kinds : List (Str × NameKind)) (st : S) : Prop := ∀ (σ σ' : St) (fl : Fl), exS Γ.tab Γ.G st σ = some (σ', fl) → ∀ (A : Around) (env : Env) (s : Shared) (f : TokMap) (Av₀ : Addr → Prop) (own : Nat → Option Addr) (E : Value → Shared → Prop),
  AOk Γ.lvl A → SC Γ A env kinds Av₀ own σ f s → wpAny (model Γ.prog Γ.w) A (exec (st.toE Γ.tab) env) (SOut Γ A env kinds Av₀ own s f σ' fl) E s
noncomputable def SXs (Γ : Ctxt) (kinds : List (Str × NameKind)) (st : Ss) : Prop := ∀ (σ σ' : St) (fl : Fl), exs Γ.tab Γ.G st σ = some (σ', fl) → ∀ (A : Around) (env : Env) (s : Shared) (f : TokMap) (Av₀ : Addr → Prop) (own : Nat → Option Addr) (E : Value → Shared → Prop),
  AOk Γ.lvl A → SC Γ A env kinds Av₀ own σ f s → wpAny (model Γ.prog Γ.w) A (execs (st.toE Γ.tab) env) (SOut Γ A env kinds Av₀ own s f σ' fl) E s

section
variable {Γ : Ctxt} {kinds : List (Str × NameKind)} {A : Around} {env : Env} {s s₁ : Shared} {f f₁ : TokMap} {Av₀ : Addr → Prop} {own : Nat → Option Addr} {σ σ' : St} {E : Value → Shared → Prop} {e : C} {d : D}

theorem SOut.trans {own₁ : Nat → Option Addr} {h₁ : Heap} {tk₁ : Nat} {fl : Fl} {flow : Flow} {s' : Shared} (ht : s.toks ≤ tk₁) (ex : Ext f f₁) (k : KeepX A (WSt env own) s.heap h₁) (ho : ∀ i l, own₁ i = some l → (∃ j, own j = some l) ∨ s.heap.get? l = none)
    (r : SOut Γ A env kinds Av₀ own₁ { s with heap := h₁, toks := tk₁ } f₁ σ' fl flow s') : SOut Γ A env kinds Av₀ own s f σ' fl flow s' := by
  obtain ⟨own', f', h', tk, rfl, ht', ex', sc, k', ho', fo⟩ := r
  have ht'' : tk₁ ≤ tk := ht'
  refine ⟨own', f', h', tk, rfl, Nat.le_trans ht ht'', ex.trans ex', sc, k.trans' k' fun b o n e => ?_, fun i l hi => ?_, fo⟩
  · rintro (q | ⟨i, q⟩)
    · exact n (.inl q)
    · rcases ho i b q with q | q
      · exact n (.inr q)
      · rw [q] at e; cases e
  · rcases ho' i l hi with ⟨j, q⟩ | q
    · exact ho j l q
    · cases z : s.heap.get? l with
      | none => exact .inr rfl
      | some o =>
        by_cases wl : WSt env own l
        · rcases wl with ⟨x, w⟩ | w
          · obtain ⟨_, _, its, p⟩ := sc.nw i l hi
            exact absurd w (ws_noPlain sc.ok p)
          · exact .inl w
        · obtain ⟨o', e', _⟩ := k l o wl z
          have q' : h₁.get? l = none := q
          rw [q'] at e'; cases e'

theorem wst_of_ws {x : Str} {b : Addr} (h : WS env x b) : WSt env own b := .inl ⟨x, h⟩

/-- an expression has been evaluated -/
theorem evalF (hs : SE Γ kinds e) (h : ev Γ.tab Γ.G e σ.frozen = some d) (ao : AOk Γ.lvl A) (x : SC Γ A env kinds Av₀ own σ f s) {Q : Value → Shared → Prop}
    (hQ : ∀ v h' tk f₁, s.toks ≤ tk → Keep A s.heap h' → Ext f f₁ → SC Γ A env kinds Av₀ own σ f₁ { s with heap := h', toks := tk } → Rd f₁ (AvOf Av₀ own) h' v d → Q v { s with heap := h', toks := tk }) :
    wpAny (model Γ.prog Γ.w) A (eval (e.toE Γ.tab) env) Q E s :=
  withToks (wpAny_mono (hs _ d h A env s f _ E ao x.frozen) (fun v s₁ ⟨k, f₁, ex, wd, r⟩ ht => by
    have y := x.keep k ex wd
    obtain ⟨h', tk, rfl, kk⟩ := k
    exact hQ v h' tk f₁ ht kk ex y r) fun _ _ q => q)
theorem evalU (hs : SE Γ kinds e) (h : ev Γ.tab Γ.G e σ.full = some d) (ao : AOk Γ.lvl A) (x : SC Γ A env kinds Av₀ own σ f s) {Q : Value → Shared → Prop}
    (hQ : ∀ v h' tk f₁, s.toks ≤ tk → Keep A s.heap h' → Ext f f₁ → SC Γ A env kinds Av₀ own σ f₁ { s with heap := h', toks := tk } → Rd f₁ Av₀ h' v d → Q v { s with heap := h', toks := tk }) :
    wpAny (model Γ.prog Γ.w) A (eval (e.toE Γ.tab) env) Q E s :=
  withToks (wpAny_mono (hs _ d h A env s f _ E ao x.full) (fun v s₁ ⟨k, f₁, ex, wd, r⟩ ht => by
    have y := x.keep k ex wd
    obtain ⟨h', tk, rfl, kk⟩ := k
    exact hQ v h' tk f₁ ht kk ex y r) fun _ _ q => q)
theorem evalK (hs : SE Γ kinds e) (h : evK (ev Γ.tab Γ.G e) σ = some d) (ao : AOk Γ.lvl A) (x : SC Γ A env kinds Av₀ own σ f s) {Q : Value → Shared → Prop}
    (hQ : ∀ v h' tk f₁, s.toks ≤ tk → Keep A s.heap h' → Ext f f₁ → SC Γ A env kinds Av₀ own σ f₁ { s with heap := h', toks := tk } → Rd f₁ (AvOf Av₀ own) h' v d → Q v { s with heap := h', toks := tk }) :
    wpAny (model Γ.prog Γ.w) A (eval (e.toE Γ.tab) env) Q E s := by
  unfold evK at h
  split at h
  · rename_i d' hd
    cases h
    exact evalF hs hd ao x hQ
  · split at h
    · rename_i d' hd
      split at h
      · rename_i hsc
        cases h
        exact evalU hs hd ao x fun v h' tk f₁ ht k ex y r => hQ v h' tk f₁ ht k ex y (r.scalar hsc)
      · cases h
    · cases h

theorem load_at (T : TabOk Γ.tab) (ok : EnvOk env kinds s.heap) {i : Nat} {v : Value} {Q : Value → Shared → Prop} (hv : VarAt env s.heap (Γ.tab i) v) (h : Q v s) : wpAny (model Γ.prog Γ.w) A (loadName env (Γ.tab i)) Q E s := by
  rcases hv with ⟨hk, m, hn, hm⟩ | ⟨hk, c, hc, hcell⟩
  · exact wpAny_loadName_local ok.kind hk hn hm h
  · rcases hk with hk | hk
    · exact wpAny_loadName_cell ok.kind hk hc hcell h
    · exact wpAny_loadName_free ok.kind hk hc hcell h (T.cld i)
theorem name_at (T : TabOk Γ.tab) (ok : EnvOk env kinds s.heap) {i : Nat} {p : Pos} {v : Value} {Q : Value → Shared → Prop} (hv : VarAt env s.heap (Γ.tab i) v) (h : Q v s) : wpAny (model Γ.prog Γ.w) A (eval (.Name (Γ.tab i) p) env) Q E s :=
  wpAny_Name (load_at T ok hv h) (T.dbg i)

theorem SC.freeze (x : SC Γ A env kinds Av₀ own σ f s) {i : Nat} {ds : List D} (hi : σ i = some (true, .list ds)) : SC Γ A env kinds Av₀ (drop1 own i) (upd σ i (false, .list ds)) f s := by
  obtain ⟨l, its, ds', e1, hl, hv, p, r⟩ := x.ow i _ hi
  cases e1
  refine ⟨x.si, x.ok, x.lo, x.ce, x.av, x.wd, fun j dj hj => ?_, fun j dj hj => ?_, fun j a hj => x.nw j a (drop1_some hj).1, fun j j' a h1 h2 => x.inj j j' a (drop1_some h1).1 (drop1_some h2).1, x.fr⟩
  · unfold upd at hj
    by_cases q : j = i
    · subst q
      rw [if_pos rfl] at hj; cases hj
      refine ⟨.ref l, hv, l, its, rfl, ?_, p.isList, RdAll.weaken (fun a => avOf_drop1) _ r⟩
      rintro (q | ⟨k, q⟩)
      · exact (x.nw j l hl).2.1 q
      · exact (drop1_some q).2 (x.inj k j l (drop1_some q).1 hl)
    · rw [if_neg q] at hj
      obtain ⟨u, hu, hr⟩ := x.fz j dj hj
      exact ⟨u, hu, Rd.weaken (fun a => avOf_drop1) _ hr⟩
  · unfold upd at hj
    by_cases q : j = i
    · subst q; rw [if_pos rfl] at hj; cases hj
    · rw [if_neg q] at hj
      obtain ⟨a, its', ds', e1, b, c, p', r'⟩ := x.ow j dj hj
      exact ⟨a, its', ds', e1, by unfold drop1; rw [if_neg q]; exact b, c, p', RdAll.weaken (fun a => avOf_drop1) _ r'⟩

/-! the statements -/
theorem sx_ret {p : Pos} (he : SE Γ kinds e) : SX Γ kinds (.ret e p) := fun σ σ' fl h A env s f Av₀ own E ao x => by
  simp only [exS_e1, exS_e2, exS_e3, exS_e4, exS_e5, exS_e6, exS_e7, exS_e8, exS_e9, exS_e10, exS_e11, exS_e12, exS_e13] at h
  obtain ⟨d, hd, h⟩ := Option.map_eq_some_iff.mp h
  cases h
  exact wpAny_Return_some (evalU he hd ao x fun v h' tk f₁ ht k ex y r => ⟨own, f₁, h', tk, rfl, ht, ex, y, .of_keep k, fun i l hi => .inl ⟨i, hi⟩, v, rfl, r⟩)
theorem sx_brk {p : Pos} : SX Γ kinds (.brk p) := fun σ σ' fl h A env s f Av₀ own E ao x => by
  simp only [exS_e1, exS_e2, exS_e3, exS_e4, exS_e5, exS_e6, exS_e7, exS_e8, exS_e9, exS_e10, exS_e11, exS_e12, exS_e13] at h
  cases h
  exact wpAny_Break ⟨own, f, s.heap, s.toks, rfl, Nat.le_refl _, .refl f, x, .refl, fun i l hi => .inl ⟨i, hi⟩, rfl⟩
theorem sxs_nil : SXs Γ kinds .nil := fun σ σ' fl h A env s f Av₀ own E ao x => by
  simp only [exs_e1, exs_e2] at h
  cases h
  exact wpAny_execs_nil ⟨own, f, s.heap, s.toks, rfl, Nat.le_refl _, .refl f, x, .refl, fun i l hi => .inl ⟨i, hi⟩, rfl⟩
theorem sxs_cons {st : S} {r : Ss} (h1 : SX Γ kinds st) (h2 : SXs Γ kinds r) : SXs Γ kinds (.cons st r) := fun σ σ' fl h A env s f Av₀ own E ao x => by
  simp only [exs_e1, exs_e2] at h
  refine wpAny_execs_cons ?_
  cases hs : exS Γ.tab Γ.G st σ with
  | none => rw [hs] at h; cases h
  | some p =>
    obtain ⟨σ₁, fl₁⟩ := p
    rw [hs] at h
    refine wpAny_mono (h1 σ σ₁ fl₁ hs A env s f Av₀ own E ao x) (fun flow s₁ out => ?_) fun _ _ q => q
    cases fl₁ with
    | next =>
      obtain ⟨own', f', h', tk, rfl, ht, ex, sc, k, ho, rfl⟩ := out
      exact wpAny_mono (h2 σ₁ σ' fl h A env _ f' Av₀ own' E ao sc) (fun flow s₂ o2 => o2.trans ht ex k ho) fun _ _ q => q
    | brk =>
      cases h
      have hf : flow = .brk := by obtain ⟨_, _, _, _, _, _, _, _, _, _, q⟩ := out; exact q
      subst hf; exact out
    | ret d =>
      cases h
      have hf : ∃ v, flow = .ret v := by obtain ⟨_, _, _, _, _, _, _, _, _, _, v, q, _⟩ := out; exact ⟨v, q⟩
      obtain ⟨v, rfl⟩ := hf; exact out
theorem sx_ite {t : C} {a b : Ss} {p : Pos} (ht : SB Γ kinds t) (ha : SXs Γ kinds a) (hb : SXs Γ kinds b) : SX Γ kinds (.ite t a b p) := fun σ σ' fl h A env s f Av₀ own E ao x => by
  simp only [exS_e1, exS_e2, exS_e3, exS_e4, exS_e5, exS_e6, exS_e7, exS_e8, exS_e9, exS_e10, exS_e11, exS_e12, exS_e13] at h
  obtain ⟨c, hc, h⟩ := Option.bind_eq_some_iff.mp h
  refine wpAny_If (withToks (wpAny_mono (ht _ c hc A env s f _ E ao x.full) (fun c' s₁ ⟨q, k, f₁, ex, wd⟩ htk => ?_) fun _ _ q => q))
  subst q
  have y := x.keep k ex wd
  obtain ⟨h', tk, rfl, kk⟩ := k
  have tr : ∀ flow s₂, SOut Γ A env kinds Av₀ own { s with heap := h', toks := tk } f₁ σ' fl flow s₂ → SOut Γ A env kinds Av₀ own s f σ' fl flow s₂ := fun flow s₂ o => o.trans htk ex (.of_keep kk) fun i l hi => .inl ⟨i, hi⟩
  cases c' with
  | true => exact wpAny_mono (ha σ σ' fl (by simpa using h) A env _ f₁ Av₀ own E ao y) tr fun _ _ q => q
  | false => exact wpAny_mono (hb σ σ' fl (by simpa using h) A env _ f₁ Av₀ own E ao y) tr fun _ _ q => q

noncomputable def isComp : C → Bool
  | .comp .. => true
  | _ => false
/-- the store of a value read just now -/
theorem storeNow (ok : Γ.Ok) {i : Nat} {v : Value} (x : SC Γ A env kinds Av₀ own σ f s) {h' : Heap} {tk : Nat} {f₁ : TokMap} (ht : s.toks ≤ tk) (k : Keep A s.heap h') (ex : Ext f f₁) (y : SC Γ A env kinds Av₀ own σ f₁ { s with heap := h', toks := tk })
    (r : Rd f₁ (AvOf Av₀ own) h' v d) (hk : storable kinds (Γ.tab i) = true) {Q : Unit → Shared → Prop} (hQ : ∀ s', SOut Γ A env kinds Av₀ own s f (upd σ i (false, d)) .next .next s' → Q () s') :
    wpAny (model Γ.prog Γ.w) A (storeName env (Γ.tab i) v) Q E { s with heap := h', toks := tk } := by
  refine SC.storeF ok y (Rd.weaken (fun a => avOf_drop1) _ r) hk fun h'' tk' ht' k' z => hQ _ ?_
  exact ⟨drop1 own i, f₁, h'', tk', rfl, Nat.le_trans ht ht', ex, z, (KeepX.of_keep k).trans (KeepX.weaken k' fun b o e q => wst_of_ws q), fun j l hj => .inl ⟨j, (drop1_some hj).1⟩, rfl⟩

theorem sx_assign_plain (ok : Γ.Ok) {i : Nat} {px p : Pos} (hn : isComp e = false) (hk : storable kinds (Γ.tab i) = true) (he : SE Γ kinds e) : SX Γ kinds (.assign i e px p) := fun σ σ' fl h A env s f Av₀ own E ao x => by
  simp only [exS_e1, exS_e2, exS_e3, exS_e4, exS_e5, exS_e6, exS_e7, exS_e8, exS_e9, exS_e10, exS_e11, exS_e12, exS_e13] at h
  obtain ⟨d, hd, h⟩ := Option.map_eq_some_iff.mp h
  cases h
  refine wpAny_Assign_Name (evalK he hd ao x fun v h' tk f₁ ht k ex y r => storeNow ok x ht k ex y r hk fun s' o => o) ?_
  cases e <;> first | rfl | cases hn

theorem sx_own (ok : Γ.Ok) {i : Nat} {es : Cs} {pe px p : Pos} (hk : storable kinds (Γ.tab i) = true) (he : SEs Γ kinds es) : SX Γ kinds (.own i es pe px p) := fun σ σ' fl h A env s f Av₀ own E ao x => by
  simp only [exS_e1, exS_e2, exS_e3, exS_e4, exS_e5, exS_e6, exS_e7, exS_e8, exS_e9, exS_e10, exS_e11, exS_e12, exS_e13] at h
  obtain ⟨ds, hds, h⟩ := Option.bind_eq_some_iff.mp h
  split at h
  · rename_i hsz
    cases h
    refine wpAny_Assign_Name (List_ (withToks (wpAny_mono (he _ ds hds A env s f _ E pe ao x.frozen) (fun vs s₁ ⟨k, f₁, ex, wd, r⟩ ht => ?_) fun _ _ q => q))) rfl
    have y := x.keep k ex wd
    obtain ⟨h', tk, rfl, kk⟩ := k
    refine wpAny_newObj_type ?_ (by show vs.toArray.size ≤ sizeLine; rw [List.size_toArray, r.length]; have := lim_le; omega)
    refine SC.storeO ok y r hk fun h'' tk' ht' k' z => ?_
    refine ⟨_, f₁, h'', tk', rfl, Nat.le_trans ht ht', ex, z, (KeepX.of_keep kk).trans (KeepX.weaken k' fun b o e q => wst_of_ws q), fun j l hj => ?_, rfl⟩
    unfold put1 at hj
    split at hj
    · cases hj
      refine .inr ?_
      cases q : s.heap.get? h'.objs.size with
      | none => rfl
      | some o =>
        obtain ⟨o', e', _⟩ := kk _ o (fun q => q) q
        exact absurd (Heap.lt_size e') (Nat.lt_irrefl _)
    · exact .inl ⟨j, hj⟩
  · cases h

/-- an own list has turned just now -/
theorem turnNow {i : Nat} {l : Addr} {its' : Array Value} {ds ds' : List D} {h' h'' : Heap} {tk : Nat} (ht : s.toks ≤ tk) (k : Keep A s.heap h') (ex : Ext f f₁) (y : SC Γ A env kinds Av₀ own σ f₁ { s with heap := h', toks := tk })
    (hi : σ i = some (true, .list ds)) (ho : own i = some l) (hs : Heap.SameBut l h' h'') (hp : PlainL h'' l its') (hr : RdAll f₁ (AvOf Av₀ own) h' its'.toList ds') :
    SOut Γ A env kinds Av₀ own s f (upd σ i (true, .list ds')) .next .next { s with heap := h'', toks := tk } := by
  have z := y.turn ⟨_, hi⟩ ho hs hp hr
  exact ⟨own, f₁, h'', tk, rfl, ht, ex, z, (KeepX.of_keep k).trans (.of_but fun b o n e => hs.extBut b o (fun q => n (.inr ⟨i, by rw [q]; exact ho⟩)) e), fun j l hj => .inl ⟨j, hj⟩, rfl⟩

theorem sx_setitem (ok : Γ.Ok) {i : Nat} {ie : C} {px ps p : Pos} (hi : SE Γ kinds ie) (he : SE Γ kinds e) : SX Γ kinds (.setitem i ie e px ps p) := fun σ σ' fl h A env s f Av₀ own E ao x => by
  simp only [exS_e1, exS_e2, exS_e3, exS_e4, exS_e5, exS_e6, exS_e7, exS_e8, exS_e9, exS_e10, exS_e11, exS_e12, exS_e13] at h
  obtain ⟨d, hd, h⟩ := Option.bind_eq_some_iff.mp h
  split at h
  · rename_i ds hσ
    obtain ⟨kd, hkd, h⟩ := Option.bind_eq_some_iff.mp h
    obtain ⟨k, hk, h⟩ := Option.bind_eq_some_iff.mp h
    split at h
    · rename_i hc
      cases h
      refine wpAny_Assign_Subscript (evalK he hd ao x fun v h₁ tk₁ f₁ ht k₁ ex y r => ?_) (by cases e <;> rfl)
      obtain ⟨l, its, ds', e1, hl, hv, hp, hr⟩ := y.ow i _ hσ
      cases e1
      refine name_at ok.T y.ok hv (evalF hi hkd ao y fun u h₂ tk₂ f₂ ht₂ k₂ ex₂ z r₂ => ?_)
      obtain ⟨t, rfl⟩ := r₂.num hk
      have hp' := plKeep hp k₂ (fun q => q)
      have hr' := hr.keep k₂ ex₂
      have hlen := hr'.length
      rw [Array.length_toList] at hlen
      have hlim : ((lim : Nat) : Int) = 1000000 := rfl
      have hsz : (ds.length : Int) ≤ 1000000 := by have := hc.2.2; omega
      refine setitem_plain (s := { s with heap := h₂, toks := tk₂ }) hp' hc.1 (by have := hc.2.1; omega) (by rw [hlen]; exact hc.2.1) fun h₃ hp₃ hs₃ => ?_
      have k12 : Keep A s.heap h₂ := KeepX.trans k₁ k₂
      refine turnNow (h' := h₂) (Nat.le_trans ht ht₂) k12 (ex.trans ex₂) z hσ hl hs₃ hp₃ ?_
      rw [Array.toList_setIfInBounds]
      exact hr'.set (r.keep k₂ ex₂) _
    · cases h
  · cases h

theorem noInteractive (h : env.scope.kind = .function) : interactive env = false := by unfold interactive; rw [h]; rfl

theorem sx_append (ok : Γ.Ok) {i : Nat} {px pa p : Pos} (hline : (pa.endLine == p.line) = true) (he : SE Γ kinds e) : SX Γ kinds (.append i e px pa p) := fun σ σ' fl h A env s f Av₀ own E ao x => by
  simp only [exS_e1, exS_e2, exS_e3, exS_e4, exS_e5, exS_e6, exS_e7, exS_e8, exS_e9, exS_e10, exS_e11, exS_e12, exS_e13] at h
  obtain ⟨d, hd, h⟩ := Option.bind_eq_some_iff.mp h
  split at h
  · rename_i ds hσ
    split at h
    · rename_i hsz
      cases h
      obtain ⟨l, its, ds', e1, hl, hv, hp, hr⟩ := x.ow i _ hσ
      cases e1
      refine wpAny_Expr (wpAny_Call_append rfl (by cases e <;> rfl) hline (back_cons Γ.tab e .nil p env) (name_at ok.T x.ok hv ⟨l, its, rfl, hp, ?_⟩)) (noInteractive x.ok.kind) rfl
      refine evalK he hd ao x fun v h₁ tk₁ f₁ ht k₁ ex y r => ?_
      have hp' := plKeep hp k₁ (fun q => q)
      have hr' := hr.keep k₁ ex
      have hlen := hr'.length
      rw [Array.length_toList] at hlen
      refine list_append_plainL (s := { s with heap := h₁, toks := tk₁ }) hp' (fun h₂ hp₂ hs₂ => ?_) (by have := lim_le; omega)
      refine turnNow (h' := h₁) ht k₁ ex y hσ hl hs₂ hp₂ ?_
      rw [Array.toList_push]
      exact RdAll.append (.one r) hr'
    · cases h
  · cases h

theorem sx_aug (ok : Γ.Ok) {i : Nat} {px p : Pos} (hk : storable kinds (Γ.tab i) = true) (he : SE Γ kinds e) : SX Γ kinds (.aug i e px p) := fun σ σ' fl h A env s f Av₀ own E ao x => by
  simp only [exS_e1, exS_e2, exS_e3, exS_e4, exS_e5, exS_e6, exS_e7, exS_e8, exS_e9, exS_e10, exS_e11, exS_e12, exS_e13] at h
  split at h
  · rename_i d₀ hσ
    obtain ⟨a, ha, h⟩ := Option.bind_eq_some_iff.mp h
    obtain ⟨d, hd, h⟩ := Option.bind_eq_some_iff.mp h
    obtain ⟨b, hb, h⟩ := Option.map_eq_some_iff.mp h
    cases h
    obtain ⟨v₀, hv, hr⟩ := x.fz i d₀ hσ
    obtain ⟨t₀, rfl⟩ := hr.num ha
    refine wpAny_AugAssign_Name (load_at ok.T x.ok hv (evalF he hd ao x fun v h₁ tk₁ f₁ ht k₁ ex y r => ?_))
    obtain ⟨t, rfl⟩ := r.num hb
    refine PyProof.Rows.iadd_int ?_
    have g : Got A f₁ (AvOf Av₀ own) { s with heap := h₁, toks := tk₁ } (.int (a + b)) (.int (a + b) tk₁) { s with heap := h₁, toks := tk₁ + 1 } := .int .tok y.wd (Nat.le_refl _) (Nat.lt_succ_self _)
    obtain ⟨kk, f₂, ex₂, wd₂, r₂⟩ := g
    have y₂ := y.keep kk ex₂ wd₂
    refine storeNow (h' := h₁) (tk := tk₁ + 1) ok x (Nat.le_trans ht (Nat.le_succ _)) k₁ (ex.trans ex₂) y₂ r₂ hk fun s' o => o
  · cases h
end
end Mine
end

section
namespace Mine
open PySem PySem.W PyProof.Rows

section
variable {Γ : Ctxt} {kinds : List (Str × NameKind)} {A : Around} {env : Env} {s s₁ : Shared} {f f₁ : TokMap} {Av₀ : Addr → Prop} {own : Nat → Option Addr} {σ σ' : St} {E : Value → Shared → Prop} {e : C} {d : D}

/-- objects that none of the state is made of turn -/
theorem SC.keepN (x : SC Γ A env kinds Av₀ own σ f s) {W : Addr → Prop} {h' : Heap} {tk : Nat} (k : KeepX A W s.heap h') (ex : Ext f f₁) (wd : Wd f₁ tk)
    (hW : ∀ b, W b → Γ.h₁.get? b = none ∧ ¬ FS A b ∧ b ≠ env.locals ∧ (∀ n, (env.kindOf n = some .cell ∨ env.kindOf n = some .free) → env.cells.lookup n ≠ some b) ∧ ¬ Av₀ b ∧ (∀ o xs n, s.heap.get? b = some o → o.data ≠ .seq xs n)) :
    SC Γ A env kinds Av₀ own σ f₁ { s with heap := h', toks := tk } := by
  have cl : ∀ Av : Addr → Prop, Clear W Av s.heap := fun Av b o xs n hb e d => absurd d ((hW b hb).2.2.2.2.2 o xs n e)
  have nl : ∀ {l its}, PlainL s.heap l its → ¬ W l := fun p q => by
    obtain ⟨o, n, e, _, _, d⟩ := p
    exact (hW _ q).2.2.2.2.2 o _ _ e d
  have va : ∀ {x v}, VarAt env s.heap x v → VarAt env h' x v := fun q => q.imp
    (fun ⟨a, m, b, c⟩ => ⟨a, m, Heap.Ns.keepX b k (fun q => (hW _ q).2.2.1 rfl), c⟩) fun ⟨a, c, b, d⟩ => ⟨a, c, b, Heap.IsCell.keepX d k (fun q => (hW _ q).2.2.2.1 _ a b)⟩
  refine ⟨?_, ⟨x.ok.kind, x.ok.names, x.ok.globals, x.ok.builtins, let ⟨m, a⟩ := x.ok.ns; ⟨m, Heap.Ns.keepX a k (fun q => (hW _ q).2.2.1 rfl)⟩,
      fun n e => let ⟨c, v, a, b⟩ := x.ok.cells n e; ⟨c, v, a, Heap.IsCell.keepX b k (fun q => (hW _ q).2.2.2.1 _ e a)⟩, x.ok.apart⟩, x.lo, x.ce, fun a ha => ?_, wd,
    fun i d hi => let ⟨v, a, b⟩ := x.fz i d hi; ⟨v, va a, Rd.keepX k (cl _) ex d b⟩,
    fun i d hi => let ⟨l, its, ds, a, b, c, p, r⟩ := x.ow i d hi; ⟨l, its, ds, a, b, va c, plKeep p k (nl p), RdAll.keepX k (cl _) ex _ r⟩,
    fun i l hi => let ⟨a, b, its, p⟩ := x.nw i l hi; ⟨a, b, its, plKeep p k (nl p)⟩, x.inj, x.fr⟩
  · obtain ⟨fr, hf, hF⟩ := x.si.fr
    refine ⟨fun b o e => ?_, fr, hf, ?_⟩
    · have nW : ¬ W b := fun q => by rw [(hW b q).1] at e; cases e
      obtain ⟨o', e', q, _⟩ := k b o nW (x.si.base b o e)
      rw [q (x.si.notFS e)] at e'; exact e'
    · have hfs : ∀ env' ∈ fr, ∀ b, env'.frame = some b → ¬ W b := fun env' hm b hb q => (hW b q).2.1 ⟨fr, env', hf, hm, hb⟩
      clear hf
      induction fr with
      | nil => trivial
      | cons env' r ih =>
        obtain ⟨hk, ⟨L, o, hf, hn', ho, hd⟩, hr⟩ := hF
        refine ⟨hk, ?_, ih hr fun e hm => hfs e (List.mem_cons_of_mem _ hm)⟩
        obtain ⟨o', e', _, d'⟩ := k.data (hfs env' (List.mem_cons_self ..) L hf) ho
        exact ⟨L, o', hf, hn', e', fun vs => by rw [d']; exact hd vs⟩
  · obtain ⟨o, e⟩ := x.av a ha
    obtain ⟨o', e', _⟩ := k a o (fun q => (hW _ q).2.2.2.2.1 ha) e
    exact ⟨o', e'⟩

theorem new_notFS {h₁ h : Heap} (si : SI h₁ A h) {b : Addr} (e : h.get? b = none) : ¬ FS A b := by
  rintro ⟨fr, env', hf, hm, hb⟩
  obtain ⟨fr', hf', hF⟩ := si.fr
  rw [hf] at hf'; cases hf'
  obtain ⟨_, o, eo, _⟩ := funFrames_mem hF env' hm b hb
  rw [e] at eo; cases eo

structure CompOk (Γ : Ctxt) (kinds : List (Str × NameKind)) (elt : C) (t : Tgt) (it : It) (ifs : Cs) (r : Gs) (sc : Scope) : Prop where
  hw : wfScope kinds sc = true
  hit : SIt Γ kinds it
  hen : isEnumIt it = true → isTup t = true
  helt : SE Γ (innerKinds kinds sc) elt
  h2 : SIfs Γ (innerKinds kinds sc) ifs
  h4 : ∀ i ∈ t.is, ownName sc (Γ.tab i) = true
  h5 : ∀ i ∈ t.is, i ∉ r.targets
  h6 : SGs Γ (innerKinds kinds sc) sc r
  h7 : ∀ i ∈ r.targets, ownName sc (Γ.tab i) = true
theorem compOk (ok : Γ.Ok) {elt : C} {t : Tgt} {it : It} {ifs : Cs} {r : Gs} {sc : Scope} {p : Pos} (h : wfC Γ.tab (.comp elt (.gen t it ifs r) sc p) kinds = true) : CompOk Γ kinds elt t it ifs r sc := by
  simp only [wfC_e1, wfC_e2, wfC_e3, wfC_e4, wfC_e5, wfC_e6, wfC_e7, wfC_e8, wfC_e9, wfC_e10, wfC_e11, wfC_e12, wfC_e13, wfC_e14, wfC_e15, wfC_e16, wfC_e17, wfC_e18, wfC_e19, wfC_e20, wfC_e21, wfC_e22, wfC_e23, wfC_e24, wfC_e25, wfC_e26, wfC_e27, wfC_e28, Bool.and_eq_true, List.all_eq_true, Bool.or_eq_true, Bool.not_eq_true'] at h
  obtain ⟨⟨⟨⟨⟨⟨⟨h1, h2⟩, h3⟩, h4⟩, h5⟩, h6⟩, h7⟩, h8⟩ := h
  exact ⟨h1, soundIt ok it _ h2, fun q => h3.elim (fun z => by rw [q] at z; cases z) id, (soundC ok elt _ h4).1, (soundCs ok ifs _ h5).2, fun i hi => (h6 i hi).1, (fun i hi q => by
      have := (h6 i hi).2; rw [List.contains_iff_mem.mpr q] at this; cases this), soundGs ok sc r _ h7, h8⟩

theorem sx_assign_comp (ok : Γ.Ok) {i : Nat} {px p pc : Pos} {elt : C} {t : Tgt} {it : It} {ifs : Cs} {r : Gs} {sc : Scope} (co : CompOk Γ kinds elt t it ifs r sc) (hk : storable kinds (Γ.tab i) = true) :
    SX Γ kinds (.assign i (.comp elt (.gen t it ifs r) sc pc) px p) := fun σ σ' fl h A env s f Av₀ own E ao x => by
  simp only [exS_e1, exS_e2, exS_e3, exS_e4, exS_e5, exS_e6, exS_e7, exS_e8, exS_e9, exS_e10, exS_e11, exS_e12, exS_e13] at h
  obtain ⟨d, hd, h⟩ := Option.map_eq_some_iff.mp h
  cases h
  have hse : SE Γ kinds (.comp elt (.gen t it ifs r) sc pc) := se_comp ok co.hw co.hit co.hen co.helt co.h2 co.h4 co.h5 co.h6 co.h7
  have hfz : ev Γ.tab Γ.G (.comp elt (.gen t it ifs r) sc pc) σ.frozen = some d := by
    unfold evK at hd
    split at hd
    · rename_i d' hd'; cases hd; exact hd'
    · split at hd
      · rename_i d' hd'
        simp only [ev_e1, ev_e2, ev_e3, ev_e4, ev_e5, ev_e6, ev_e7, ev_e8, ev_e9, ev_e10, ev_e11, ev_e12, ev_e13, ev_e14, ev_e15, ev_e16, ev_e17, ev_e18, ev_e19, ev_e20, ev_e21, ev_e22, ev_e23, ev_e24, ev_e25, ev_e26, ev_e27, ev_e28] at hd'
        obtain ⟨ds, _, hd'⟩ := Option.bind_eq_some_iff.mp hd'
        obtain ⟨bs, _, hd'⟩ := Option.bind_eq_some_iff.mp hd'
        obtain ⟨_, rfl⟩ := mkList_inv hd'
        simp [scalar] at hd
      · cases hd
  obtain ⟨b, hb⟩ : ∃ b, swapsWith ((C.comp elt (.gen t it ifs r) sc pc).toE Γ.tab) (some (.Name (Γ.tab i) px)) p.line env = pure b := ⟨_, rfl⟩
  cases b with
  | false => exact wpAny_Assign_Name (evalF hse hfz ao x fun v h' tk f₁ ht k ex y r => storeNow ok x ht k ex y r hk fun s' o => o) hb
  | true =>
    show wpAny _ A (exec (.Assign [.Name (Γ.tab i) px] ((C.comp elt (.gen t it ifs r) sc pc).toE Γ.tab) p) env) _ E s
    rw [exec_Assign_Name_used _ _ _ _ hb]
    refine wpAny_bind (wpAny_standAt (wpAny_bind ?_))
    simp only [ev_e1, ev_e2, ev_e3, ev_e4, ev_e5, ev_e6, ev_e7, ev_e8, ev_e9, ev_e10, ev_e11, ev_e12, ev_e13, ev_e14, ev_e15, ev_e16, ev_e17, ev_e18, ev_e19, ev_e20, ev_e21, ev_e22, ev_e23, ev_e24, ev_e25, ev_e26, ev_e27, ev_e28] at hfz
    obtain ⟨ds, hds, hfz⟩ := Option.bind_eq_some_iff.mp hfz
    obtain ⟨bs, hc, hfz⟩ := Option.bind_eq_some_iff.mp hfz
    obtain ⟨hsz, rfl⟩ := mkList_inv hfz
    show wpAny _ A (comprehension (.ListComp (elt.toE Γ.tab) ((Gs.gen t it ifs r).toE Γ.tab) sc pc) sc env _ (newList []) false (eval (it.toE Γ.tab) env) (some (assign (.Name (Γ.tab i) px) env)) >>= fun _ => pure ()) _ E s
    refine wpAny_bind (comp_core (use := some (assign (.Name (Γ.tab i) px) env)) ok ao co.hw co.hit co.hen co.helt co.h2 co.h4 co.h5 co.h6 co.h7 x.frozen hds hc hsz fun h' tk f' C dst its ht ex wd k hC hCD hn hdst hl r => ?_)
    replace r : RdAll f' (AvOf Av₀ own) h' its.toList bs := RdAll.weaken (fun a q => .inl q) _ r
    have y := x.keep (s₁ := { s with heap := h', toks := tk }) ⟨h', tk, rfl, k⟩ ex wd
    have hr : Rd f' (AvOf Av₀ own) h' (.ref dst) (.list bs) := ⟨dst, its, rfl, (fun q => by
      obtain ⟨o, e⟩ := x.frozen.av dst q
      rw [hdst] at e; cases e), hl.isList, r⟩
    refine wpAny_assign_Name (SC.storeF ok y (Rd.weaken (fun a => avOf_drop1) _ hr) hk fun h₂ tk₂ ht₂ k₂ z => ?_)
    obtain ⟨m, hn⟩ := hn
    have hlo : C ≠ env.locals := fun q => by
      obtain ⟨m', o, _, _, e, _⟩ := x.ok.ns
      rw [← q, hC] at e; cases e
    have hce : ∀ n, (env.kindOf n = some .cell ∨ env.kindOf n = some .free) → env.cells.lookup n ≠ some C := fun n q z => by
      obtain ⟨c, v, h1, o, e, _⟩ := x.ok.cells n q
      rw [z] at h1; cases h1
      rw [hC] at e; cases e
    have hnW : ¬ WS env (Γ.tab i) C := by
      rintro (⟨_, q⟩ | ⟨q1, q2⟩)
      · exact hlo q
      · exact hce _ (.inl q1) q2
    have hn₂ : h₂.Ns C m := Heap.Ns.keepX hn k₂ hnW
    refine ⟨m, hn₂, fun h₃ hs₃ => wpAny_pure (wpAny_pure ?_)⟩
    have k₃ : KeepX A (fun b => b = C) h₂ h₃ := .of_but fun b o n e => hs₃.extBut b o n e
    have z₃ := z.keepN (h' := h₃) (tk := tk₂) k₃ (.refl f') z.wd fun b hb => by
      subst hb
      refine ⟨base_none x.si hC, new_notFS x.si hC, hlo, hce, fun q => ?_, fun o xs n e => ?_⟩
      · obtain ⟨o, e⟩ := x.av _ q
        rw [hC] at e; cases e
      · obtain ⟨o', es, ep, ho, hd', _⟩ := hn₂
        rw [ho] at e; cases e
        rw [hd']; simp
    refine ⟨_, f', h₃, tk₂, rfl, Nat.le_trans ht ht₂, ex, z₃, ((KeepX.of_keep k).trans (KeepX.weaken k₂ fun b o e q => wst_of_ws q)).trans' k₃ fun b o n e q => ?_, fun j l hj => .inl ⟨j, (drop1_some hj).1⟩, rfl⟩
    rw [q, hC] at e; cases e

/-! loops -/
theorem assignAllS (ok : Γ.Ok) : ∀ (is : List (Nat × Pos)) (ds : List D) (vs : List Value) (σ σ' : St) (own : Nat → Option Addr) (s : Shared) (Q : Unit → Shared → Prop), bindS.go is ds σ = some σ' → SC Γ A env kinds Av₀ own σ f s →
    RdAll f (AvOf Av₀ own) s.heap vs ds → (∀ x ∈ is, storable kinds (Γ.tab x.1) = true) →
    (∀ h' tk own', s.toks ≤ tk → KeepX A (WT Γ.tab env (is.map (·.1))) s.heap h' → (∀ j l, own' j = some l → own j = some l) → SC Γ A env kinds Av₀ own' σ' f { s with heap := h', toks := tk } → Q () { s with heap := h', toks := tk }) →
    wpAny (model Γ.prog Γ.w) A (assignInOrder (is.map fun x => assign (.Name (Γ.tab x.1) x.2) env) vs) Q E s
  | [], [], vs, σ, σ', own, s, Q, hb, x, r, _, hQ => by
    cases r
    cases hb
    exact wpAny_pure (hQ s.heap s.toks own (Nat.le_refl _) .refl (fun j l h => h) x)
  | y :: is, d :: ds, _, σ, σ', own, s, Q, hb, x, ⟨v, ws, p, r1, r2⟩, hst, hQ => by
    subst p
    refine wpAny_assignInOrder_more (wpAny_assign_Name (SC.storeF ok x (Rd.weaken (fun a => avOf_drop1) _ r1) (hst y (List.mem_cons_self ..)) fun h' tk ht k z => ?_))
    have cl : Clear (WS env (Γ.tab y.1)) (AvOf Av₀ (drop1 own y.1)) s.heap := ws_clear x.ok _
    refine assignAllS ok is ds ws _ σ' _ _ Q hb z (RdAll.keepX k cl (.refl f) ds (RdAll.weaken (fun a => avOf_drop1) _ r2)) (fun z hz => hst z (List.mem_cons_of_mem _ hz)) fun h'' tk' own' ht' k' ho z' => ?_
    have kA : KeepX A (WT Γ.tab env ((y :: is).map (·.1))) s.heap h' := k.weaken fun b o e q => ⟨y.1, by simp, q⟩
    have kB : KeepX A (WT Γ.tab env ((y :: is).map (·.1))) h' h'' := KeepX.weaken k' fun b o e q => WT.mono (fun i hi => by rw [List.map_cons]; exact List.mem_cons_of_mem _ hi) b q
    exact hQ h'' tk' own' (Nat.le_trans ht ht') (kA.trans kB) (fun j l h => (drop1_some (ho j l h)).1) z'
  | [], _ :: _, _, _, _, _, _, _, hb, _, _, _, _ => by cases hb
  | _ :: _, [], _, _, _, _, _, _, hb, _, _, _, _ => by cases hb

theorem bindSgo_length : ∀ {is : List (Nat × Pos)} {ds : List D} {σ σ' : St}, bindS.go is ds σ = some σ' → is.length = ds.length
  | [], [], _, _, _ => rfl
  | x :: is, d :: ds, σ, _, h => by simp only [List.length_cons]; rw [bindSgo_length (is := is) (ds := ds) (σ := upd σ x.1 (false, d)) h]
  | [], _ :: _, _, _, h => by cases h
  | _ :: _, [], _, _, h => by cases h

theorem assignS (ok : Γ.Ok) (hh : A.handled = none) (x : SC Γ A env kinds Av₀ own σ f s) {t : Tgt} {v : Value} (hb : bindS t d σ = some σ') (hr : Rd f (AvOf Av₀ own) s.heap v d)
    (hst : ∀ i ∈ t.is, storable kinds (Γ.tab i) = true) {Q : Unit → Shared → Prop}
    (hQ : ∀ h' tk own', s.toks ≤ tk → KeepX A (WT Γ.tab env t.is) s.heap h' → (∀ j l, own' j = some l → own j = some l) → SC Γ A env kinds Av₀ own' σ' f { s with heap := h', toks := tk } → Q () { s with heap := h', toks := tk }) :
    wpAny (model Γ.prog Γ.w) A (assign (t.toE Γ.tab) env v) Q E s := by
  cases t with
  | one i p =>
    cases hb
    refine wpAny_assign_Name (SC.storeF ok x (Rd.weaken (fun a => avOf_drop1) _ hr) (hst i (by simp [Tgt.is])) fun h' tk ht k z => hQ h' tk _ ht (k.weaken fun b o e q => ⟨i, by simp [Tgt.is], q⟩) (fun j l h => (drop1_some h).1) z)
  | tup is p =>
    have fin : ∀ (ds : List D) (its : Array Value), bindS.go is ds σ = some σ' → RdAll f (AvOf Av₀ own) s.heap its.toList ds → ∀ h₀, Heap.ExtBut s.heap.objs.size s.heap h₀ →
        wpAny (model Γ.prog Γ.w) A (assignInOrder ((assignEach (is.map fun x => .Name (Γ.tab x.1) x.2) env).map (·.2)) its.toList) Q E { s with heap := h₀ } := by
      intro ds its hb r h₀ he
      have k0 : KeepS A s { s with heap := h₀, toks := s.toks } := .of fun b o e => he b o (Nat.ne_of_lt (Heap.lt_size e)) e
      rw [assignEach_names, List.map_map]
      refine assignAllS ok is ds its.toList σ σ' own _ Q hb (x.keep k0 (.refl f) x.wd) (r.keep k0.keep (.refl f)) (fun x hx => hst x.1 (List.mem_map.mpr ⟨x, hx, rfl⟩)) fun h' tk own' ht k ho z => ?_
      exact hQ h' tk own' ht ((KeepX.of_keep k0.keep).trans k) ho z
    have hlen : ∀ (ds : List D) (its : Array Value), bindS.go is ds σ = some σ' → RdAll f (AvOf Av₀ own) s.heap its.toList ds → (assignEach (is.map fun x => .Name (Γ.tab x.1) x.2) env).length = its.size := by
      intro ds its hb r
      rw [assignEach_names, List.length_map, bindSgo_length hb]
      have := r.length
      rw [Array.length_toList] at this
      exact this.symm
    have hno : (assignEach (is.map fun x => .Name (Γ.tab x.1) x.2) env).findIdx? (·.1) = none := by
      rw [assignEach_names, List.findIdx?_eq_none_iff]
      intro x hx
      obtain ⟨y, _, rfl⟩ := List.mem_map.mp hx
      rfl
    cases d with
    | tuple ds =>
      obtain ⟨a, its, rfl, ht, r⟩ := hr
      exact wpAny_assign_Tuple hh (items := its) ht (hlen ds its hb r) hno (fin ds its hb r)
    | list ds =>
      obtain ⟨a, its, rfl, _, hl, r⟩ := hr
      show wpAny _ A (assign (.Tuple _ 0 p) env (.ref a)) Q E s
      rw [arm_assign_Tuple]
      refine wpAny_bind (wpAny_standAt ?_)
      unfold unpack
      rw [hlen ds its hb r, hno]
      exact wpAny_bind (wpAny_holding (unpackItems_list hh hl (fin ds its hb r)))
    | _ => cases hb
end
end Mine
end

section
namespace Mine
open PySem PySem.W PyProof.Rows

section
variable {Γ : Ctxt} {kinds : List (Str × NameKind)} {A : Around} {env : Env} {s : Shared} {f : TokMap} {Av₀ : Addr → Prop} {own : Nat → Option Addr} {σ σ' : St} {E : Value → Shared → Prop}

/-- a loop; its body may raise, where that is caught behind the loop -/
theorem for_gen (ok : Γ.Ok) (ao : AOk Γ.lvl A) {t : Tgt} {it : It} {body : List Stmt} {p : Pos} (hit : SIt Γ kinds it) (hen : isEnumIt it = true → isTup t = true) (hst : ∀ i ∈ t.is, storable kinds (Γ.tab i) = true) {fl : Fl} (step2 : Mine.St → Option (Mine.St × Fl))
    (hbody : ∀ σ₂ σ₃ fl₁, step2 σ₂ = some (σ₃, fl₁) → (∀ v, fl₁ = .ret v → σ' = σ₃ ∧ fl = .ret v) → ∀ h₄ tk₄ f₄ own₄, SC Γ A env kinds Av₀ own₄ σ₂ f₄ { s with heap := h₄, toks := tk₄ } → s.toks ≤ tk₄ → Ext f f₄ → KeepX A (WSt env own) s.heap h₄ → (∀ j l, own₄ j = some l → (∃ j', own j' = some l) ∨ s.heap.get? l = none) →
      wpAny (model Γ.prog Γ.w) A (execs body env) (SOut Γ A env kinds Av₀ own₄ { s with heap := h₄, toks := tk₄ } f₄ σ₃ fl₁) (notedBy (model Γ.prog Γ.w) A env (cameBackBy (model Γ.prog Γ.w) A env E)) { s with heap := h₄, toks := tk₄ })
    (x : SC Γ A env kinds Av₀ own σ f s) {ds : List D} (hds : evIt Γ.tab Γ.G it σ.frozen = some ds)
    (hl : loopM (fun d σ' => (bindS t d σ').bind fun σ'' => step2 σ'') ds σ = some (σ', fl)) :
    wpAny (model Γ.prog Γ.w) A (exec (.For (t.toE Γ.tab) (it.toE Γ.tab) body [] p) env) (SOut Γ A env kinds Av₀ own s f σ' fl) E s := by
  refine wpAny_For (withToks (wpAny_mono (hit _ ds hds A env s f _ E (t.toE Γ.tab) (fun q => isTup_toE (hen q)) ao x.frozen) (fun xv s₁ hx ht₁ => withToks (wpAny_mono hx (fun v s₂ hv ht₂ => ?_) fun _ _ q => q)) fun _ _ q => q)) (fold_pure Γ.tab it env)
  obtain ⟨k, I, fp, f', rfl, ex, wd, hfp, hitr⟩ := hv
  have y := x.keep k ex wd
  obtain ⟨h₂, tk₂, rfl, kk⟩ := k
  have htk : s.toks ≤ tk₂ := Nat.le_trans ht₁ ht₂
  obtain ⟨St, itr, st⟩ := hitr (fun a => AvOf Av₀ own a ∨ h₂.get? a = none) fun a q => q
  have old : ∀ l, h₂.get? l = none → s.heap.get? l = none := fun l q => by
    cases z : s.heap.get? l with
    | none => rfl
    | some o => obtain ⟨o', e', _⟩ := kk l o (fun q => q) z; rw [q] at e'; cases e'
  generalize hstep : (fun d σ' => (bindS t d σ').bind fun σ'' => step2 σ'' : D → Mine.St → Option (Mine.St × Fl)) = step at hl
  -- what holds of the iterator's objects wherever it stands
  have fpOff : ∀ {i : Nat} {h' : Heap} {tk : Nat} {f'' : TokMap} {own' : Nat → Option Addr} {σ₁ : Mine.St}, St i h' f'' → SC Γ A env kinds Av₀ own' σ₁ f'' { s with heap := h', toks := tk } →
      ∀ b, b ∈ fp → Γ.h₁.get? b = none ∧ ¬ FS A b ∧ b ≠ env.locals ∧ (∀ n, (env.kindOf n = some .cell ∨ env.kindOf n = some .free) → env.cells.lookup n ≠ some b) ∧ ¬ Av₀ b ∧ (∀ o xs n, h'.get? b = some o → o.data ≠ .seq xs n) := by
    intro i h' tk f'' own' σ₁ st' z b hb
    obtain ⟨o, vs, e1, d1⟩ := itr.objs _ _ _ st' b hb
    refine ⟨base_none x.si (hfp b hb).2, notFS_fields z.si e1 d1, fun q => ?_, fun n hn q => ?_, fun q => ?_, fun o' xs n e q => ?_⟩
    · obtain ⟨m, o', es, ep, ho, hd, _⟩ := z.ok.ns
      rw [← q] at ho
      have ho' : h'.get? b = some o' := ho
      rw [e1] at ho'; cases ho'
      rw [d1] at hd; cases hd
    · obtain ⟨c, v, hc', o', ho, hd⟩ := z.ok.cells n hn
      rw [q] at hc'; cases hc'
      have ho' : h'.get? b = some o' := ho
      rw [e1] at ho'; cases ho'
      rw [d1] at hd; cases hd
    · obtain ⟨o', e⟩ := x.av b q
      rw [(hfp b hb).2] at e; cases e
    · rw [e1] at e; cases e
      rw [d1] at q; cases q
  have fpWSt : ∀ {i : Nat} {h' : Heap} {tk : Nat} {f'' : TokMap} {own' : Nat → Option Addr} {σ₁ : Mine.St}, St i h' f'' → SC Γ A env kinds Av₀ own' σ₁ f'' { s with heap := h', toks := tk } → ∀ b, b ∈ fp → ¬ WSt env own' b := by
    intro i h' tk f'' own' σ₁ st' z b hb q
    obtain ⟨o, vs, e1, d1⟩ := itr.objs _ _ _ st' b hb
    rcases q with ⟨y, q⟩ | ⟨j, q⟩
    · exact ws_notFields z.ok q e1 d1
    · obtain ⟨_, _, its, o', n, e2, _, _, d2⟩ := z.nw j b q
      have e2' : h'.get? b = some o' := e2
      rw [e1] at e2'; cases e2'
      rw [d1] at d2; cases d2
  have ends : ∀ {h' : Heap} {tk : Nat} {f'' : TokMap} {own' : Nat → Option Addr} {σ₁ : Mine.St} {fl₁ : Fl} {flow : Flow}, tk₂ ≤ tk → Ext f' f'' → SC Γ A env kinds Av₀ own' σ₁ f'' { s with heap := h', toks := tk } →
      KeepX A (fun b => WSt env own b ∨ b ∈ fp) h₂ h' → (∀ j l, own' j = some l → (∃ j', own j' = some l) ∨ h₂.get? l = none) → FlOk f'' Av₀ h' fl₁ flow →
      SOut Γ A env kinds Av₀ own s f σ₁ fl₁ flow { s with heap := h', toks := tk } := by
    intro h' tk f'' own' σ₁ fl₁ flow t1 e1 z k1 ho fo
    refine ⟨own', f'', h', tk, rfl, Nat.le_trans htk t1, ex.trans e1, z, (KeepX.of_keep kk).trans' k1 (fun b o n e q => q.elim n fun q => ?_), fun j l hj => (ho j l hj).imp id (old l), fo⟩
    rw [(hfp b q).2] at e; cases e
  obtain ⟨Inv, hInv⟩ : ∃ Inv : Nat → Shared → Prop, Inv = fun n s' => Ex6 fun (i : Nat) (h' : Heap) (tk : Nat) (f'' : TokMap) (own' : Nat → Option Addr) (σ₁ : Mine.St) => And10 (s' = { s with heap := h', toks := tk }) (n = ds.length - i) (i ≤ ds.length) (tk₂ ≤ tk) (Ext f' f'') (St i h' f'') (SC Γ A env kinds Av₀ own' σ₁ f'' s') (loopM step (ds.drop i) σ₁ = some (σ', fl)) (KeepX A (fun b => WSt env own b ∨ b ∈ fp) h₂ h') ((∀ j l, own' j = some l → (∃ j', own j' = some l) ∨ h₂.get? l = none)) := ⟨_, rfl⟩
  refine codeAny_forLoop_any Inv (fun n s' hinv => ?_) ds.length (by rw [hInv]; exact ⟨0, h₂, tk₂, f', own, σ, rfl, rfl, Nat.zero_le _, Nat.le_refl _, .refl _, st, y, by simpa using hl, .refl, fun j l hj => .inl ⟨j, hj⟩⟩)
  rw [hInv] at hinv
  obtain ⟨i, h', tk, f'', own', σ₁, rfl, rfl, hi, htk', hext, hst', z, hrest, hk, ho⟩ := hinv
  show wpAny _ _ _ _ (notedBy (model Γ.prog Γ.w) A env (cameBackBy (model Γ.prog Γ.w) A env E)) _
  generalize hE : notedBy (model Γ.prog Γ.w) A env (cameBackBy (model Γ.prog Γ.w) A env E) = E' at hbody ⊢
  by_cases hlt : i < ds.length
  · have hd : ds[i]? = some ds[i] := List.getElem?_eq_getElem hlt
    have hdrop : ds.drop i = ds[i] :: ds.drop (i + 1) := List.drop_eq_getElem_cons hlt
    generalize ds[i] = d at hd hdrop
    rw [hdrop] at hrest
    simp only [loopM] at hrest
    have hstepd : ∀ p, step d σ₁ = some p → ∃ σ₂, bindS t d σ₁ = some σ₂ ∧ step2 σ₂ = some p := fun p hp => by
      rw [← hstep] at hp
      exact Option.bind_eq_some_iff.mp hp
    obtain ⟨p, hp⟩ : ∃ p, step d σ₁ = some p := by
      cases q : step d σ₁ with
      | none => rw [q] at hrest; cases hrest
      | some p => exact ⟨p, rfl⟩
    rw [hp] at hrest
    obtain ⟨σ₃, fl₁⟩ := p
    obtain ⟨σ₂, hb1, hb2⟩ := hstepd _ hp
    refine wpAny_mono (itr.item i d _ f'' (fun v s₂ => wpAny (model Γ.prog Γ.w) A (assign (t.toE Γ.tab) env v) (fun _ s₂ => wpAny (model Γ.prog Γ.w) A (execs body env) (fun fw s₃ => match fw with
            | .next | .cont => ∃ m, m < ds.length - i ∧ Inv m s₃
            | .brk => SOut Γ A env kinds Av₀ own s f σ' fl .next s₃
            | .ret v => SOut Γ A env kinds Av₀ own s f σ' fl (.ret v) s₃) E' s₂) E' s₂) E' hd hst' z.wd (fun b hb => (fpOff hst' z b hb).2.1) ?_) (fun r s₁ h₁ => ?_) fun _ _ q => q
    · intro v h₃ tk₃ f₃ e₃ w₃ t₃ rv st₃ kB
      have t₃' : tk ≤ tk₃ := t₃
      have z₃ : SC Γ A env kinds Av₀ own' σ₁ f₃ { s with heap := h₃, toks := tk₃ } := SC.keepN (s := { s with heap := h', toks := tk }) z (W := (· ∈ fp)) kB.keepX e₃ w₃ (fpOff hst' z)
      have rv' : Rd f₃ (AvOf Av₀ own') h₃ v d := Rd.weaken (fun a q => by
        rcases q with q | ⟨j, q⟩
        · exact .inl (.inl q)
        · exact (ho j a q).imp (fun ⟨j', q'⟩ => .inr ⟨j', q'⟩) id) _ rv
      refine assignS (s := { s with heap := h₃, toks := tk₃ }) ok ao.handled z₃ hb1 rv' hst fun h₄ tk₄ own₄ t₄ k₄ ho₄ z₄ => ?_
      have t₄' : tk₃ ≤ tk₄ := t₄
      have k₄' : KeepX A (WT Γ.tab env t.is) h₃ h₄ := k₄
      have st₄ : St (i + 1) h₄ f₃ := itr.frame _ _ _ _ _ _ st₃ (.refl _) k₄' (ws_clearT z₃.ok _) fun b hb => ⟨fun ⟨j, _, q⟩ => fpWSt st₃ z₃ b hb (.inl ⟨_, q⟩), (fpOff st₃ z₃ b hb).2.1⟩
      have k04 : KeepX A (fun b => WSt env own b ∨ b ∈ fp) h₂ h₄ := (hk.trans (KeepX.weaken kB.keepX fun b o e q => .inr q)).trans (KeepX.weaken k₄' fun b o e q => .inl (let ⟨j, _, q⟩ := q; .inl ⟨_, q⟩))
      have hoAll : ∀ j l, own₄ j = some l → (∃ j', own j' = some l) ∨ h₂.get? l = none := fun j l hj => ho j l (ho₄ j l hj)
      obtain ⟨_, _, _, _, e0, t0, x0, _, k0, o0, _⟩ := ends (fl₁ := .next) (flow := .next) (by omega) (hext.trans e₃) z₄ k04 hoAll rfl
      cases e0
      refine wpAny_mono (hbody σ₂ σ₃ fl₁ hb2 (fun v q => by subst q; cases hrest; exact ⟨rfl, rfl⟩) h₄ tk₄ f₃ own₄ z₄ (by omega) (ex.trans (hext.trans e₃)) k0 (fun j l hj => (hoAll j l hj).imp id (old l))) (fun flow s₅ out => ?_) fun _ _ q => q
      obtain ⟨own₅, f₅, h₅, tk₅, rfl, t₅, ex₅, z₅, k₅, ho₅, fo⟩ := out
      have t₅' : tk₄ ≤ tk₅ := t₅
      have k₅' : KeepX A (WSt env own₄) h₄ h₅ := k₅
      have st₅ : St (i + 1) h₅ f₅ := by
        refine itr.frame _ _ _ _ _ _ st₄ ex₅ k₅' (fun b o xs n hb e dd => ?_) fun b hb => ⟨fpWSt st₄ z₄ b hb, (fpOff st₄ z₄ b hb).2.1⟩
        rcases hb with ⟨yy, q⟩ | ⟨j, q⟩
        · exact ws_clear (Av := fun a => AvOf Av₀ own a ∨ h₂.get? a = none) z₄.ok yy b o xs n q e dd
        · obtain ⟨_, _, its, o', n', e2, c2, _, d2⟩ := z₄.nw j b q
          have e2' : h₄.get? b = some o' := e2
          rw [e] at e2'; cases e2'
          exact ⟨c2, (hoAll j b q).imp (fun ⟨j', q'⟩ => .inr ⟨j', q'⟩) id⟩
      have kAll : KeepX A (fun b => WSt env own b ∨ b ∈ fp) h₂ h₅ := by
        refine ((hk.trans (KeepX.weaken kB.keepX fun b o e q => .inr q)).trans (KeepX.weaken k₄' fun b o e q => .inl (let ⟨j, _, q⟩ := q; .inl ⟨_, q⟩))).trans' k₅' fun b o n e q => ?_
        rcases q with q | ⟨j, q⟩
        · exact n (.inl (.inl q))
        · rcases hoAll j b q with q | q
          · exact n (.inl (.inr q))
          · rw [q] at e; cases e
      have ho' : ∀ j l, own₅ j = some l → (∃ j', own j' = some l) ∨ h₂.get? l = none := fun j l hj => by
        rcases ho₅ j l hj with ⟨j', q⟩ | q
        · exact hoAll j' l q
        · cases zz : h₂.get? l with
          | none => exact .inr rfl
          | some o =>
            obtain ⟨_, _, its, pl⟩ := z₅.nw j l hj
            by_cases wl : WSt env own l ∨ l ∈ fp
            · rcases wl with (⟨yy, w⟩ | w) | w
              · exact absurd w (ws_noPlain z₅.ok pl)
              · exact .inl w
              · obtain ⟨o1, n1, e1, _, _, d1⟩ := pl
                exact absurd d1 ((fpOff st₅ z₅ l w).2.2.2.2.2 o1 _ _ e1)
            · obtain ⟨o', e', _⟩ := ((hk.trans (KeepX.weaken kB.keepX fun b o e q => .inr q)).trans (KeepX.weaken k₄' fun b o e q => .inl (let ⟨j, _, q⟩ := q; .inl ⟨_, q⟩))) l o wl zz
              have q' : h₄.get? l = none := q
              rw [q'] at e'; cases e'
      have fin : ∀ (fl₂ : Fl) (fw : Flow), FlOk f₅ Av₀ h₅ fl₂ fw → SOut Γ A env kinds Av₀ own s f σ₃ fl₂ fw { s with heap := h₅, toks := tk₅ } := fun fl₂ fw q => ends (by omega) ((hext.trans e₃).trans ex₅) z₅ kAll ho' q
      cases fl₁ with
      | next =>
        have hf : flow = .next := fo
        subst hf
        refine ⟨ds.length - (i + 1), by omega, ?_⟩
        rw [hInv]
        exact ⟨i + 1, h₅, tk₅, f₅, own₅, σ₃, rfl, rfl, hlt, by omega, (hext.trans e₃).trans ex₅, st₅, z₅, hrest, kAll, ho'⟩
      | brk =>
        have hf : flow = .brk := fo
        subst hf
        cases hrest
        exact fin .next .next rfl
      | ret dv =>
        obtain ⟨rvv, hf, hrd⟩ := fo
        subst hf
        cases hrest
        exact fin (.ret dv) (.ret rvv) ⟨rvv, rfl, hrd⟩
    · obtain ⟨v, rfl, hv⟩ := h₁
      exact hv
  · have hin : i = ds.length := by omega
    subst hin
    refine itr.done _ f'' _ _ hst' fun h₃ tk₃ t₃ kB => ?_
    have t₃' : tk ≤ tk₃ := t₃
    rw [List.drop_length] at hrest
    simp only [loopM] at hrest
    cases hrest
    have z₃ : SC Γ A env kinds Av₀ own' σ' f'' { s with heap := h₃, toks := tk₃ } := SC.keepN (s := { s with heap := h', toks := tk }) z (W := (· ∈ fp)) kB.keepX (.refl _) (z.wd.mono t₃') (fpOff hst' z)
    exact wpAny_execs_nil (ends (by omega) hext z₃ (hk.trans (KeepX.weaken kB.keepX fun b o e q => .inr q)) ho rfl)
theorem for_core (ok : Γ.Ok) (ao : AOk Γ.lvl A) {t : Tgt} {it : It} {body : Ss} {p : Pos} (hit : SIt Γ kinds it) (hen : isEnumIt it = true → isTup t = true) (hst : ∀ i ∈ t.is, storable kinds (Γ.tab i) = true) (hbody : SXs Γ kinds body)
    (x : SC Γ A env kinds Av₀ own σ f s) {ds : List D} {fl : Fl} (hds : evIt Γ.tab Γ.G it σ.frozen = some ds)
    (hl : loopM (fun d σ' => (bindS t d σ').bind fun σ'' => exs Γ.tab Γ.G body σ'') ds σ = some (σ', fl)) :
    wpAny (model Γ.prog Γ.w) A (exec (.For (t.toE Γ.tab) (it.toE Γ.tab) (body.toE Γ.tab) [] p) env) (SOut Γ A env kinds Av₀ own s f σ' fl) E s :=
  for_gen ok ao hit hen hst (fun σ'' => exs Γ.tab Γ.G body σ'') (fun σ₂ σ₃ fl₁ hb _ h₄ tk₄ f₄ own₄ z _ _ _ _ => hbody σ₂ σ₃ fl₁ hb A env _ f₄ Av₀ own₄ _ ao z) x hds hl
end
end Mine
end

section
namespace Mine
open PySem PySem.W PyProof.Rows
open AutoSeq1 (wpAny_loadPart')
open MeetsSeq SeqAt

/-! list.remove, the items' equality being known where it stands -/
theorem remove_loopAt (l : Addr) (items : Array Value) (n : Nat) (dd : Option Addr) (sl : Array (Option Value)) (x : Value) (e : Value → Bool) (j : Nat) (hj : j < items.size) (hit : e items[j] = true) (k : Nat) (hs1 : items.size ≤ sizeLine) :
    ∀ i : Nat, j - i = k → i ≤ j → (∀ m (hm : m < items.size), i ≤ m → m < j → e items[m] = false) → Meets (Builtin.«list.remove.loop» ⟨[.ref l, x, rawInt i], []⟩)
      (fun A R s => s.heap.get? l = some { cls := .type "list", dict := dd, data := .seq items n, slots := sl } ∧ (∀ y, y ∈ items → EqAt A.in1 s y x (e y)) ∧ R (.ok (.ret .none)) { s with heap := s.heap.update l (Obj.mapSeq fun xs => xs.eraseIdxIfInBounds j) }) := by
  induction k with
  | zero =>
    intro i hk hij hno prog w A R s h
    obtain ⟨hp, g, d, tk, os⟩ := s; obtain ⟨hl, he, h⟩ := h
    have hij' : i = j := by omega
    subst hij'
    wp_walk using wpAny_loadPart' hl
    have hi : items[((i : Nat) : Int).toNat]? = some items[i] := by simp [hj]
    rw [hi]
    refine wpAny_bind (he _ (Array.getElem_mem hj) prog w _ _ ?_)
    rw [hit]
    have hz' : (items.eraseIdxIfInBounds i).size ≤ sizeLine + 1 := Nat.le_trans (size_erased items _) (Nat.le_succ_of_le hs1)
    wp_walk using (wpAny_updateSeq hl rfl (hz := hs1) (_hz' := hz')), wpAny_loadPart' hl
    simpa using h
  | succ k ih =>
    intro i hk hij hno prog w A R s h
    obtain ⟨hp, g, d, tk, os⟩ := s; obtain ⟨hl, he, h⟩ := h
    have hlt : i < items.size := by omega
    wp_walk using wpAny_loadPart' hl
    have hi : items[((i : Nat) : Int).toNat]? = some items[i] := by simp [hlt]
    have hc : ((i : Int) + 1) = ((i + 1 : Nat) : Int) := by push_cast; rfl
    rw [hi]
    refine wpAny_bind (he _ (Array.getElem_mem hlt) prog w _ _ ?_)
    rw [hno i hlt (Nat.le_refl _) (by omega)]
    wp_walk
    rw [hc]
    exact ⟨plainId_quiet plain_remove_loop _, codeAny_builtin entry_remove_loop (by
      rw [Around.under_plainId plain_remove_loop _]
      exact ih (i + 1) (by omega) (by omega) (fun m hm h1 h2 => hno m hm (by omega) h2) prog w A R _ ⟨hl, he, h⟩)⟩

theorem list_removeAt (l : Addr) (items : Array Value) (n : Nat) (dd : Option Addr) (sl : Array (Option Value)) (x : Value) (e : Value → Bool) (j : Nat) (hj : j < items.size)
    (hit : e items[j] = true) (hno : ∀ m (hm : m < items.size), m < j → e items[m] = false) (hs1 : items.size ≤ sizeLine) :
    Meets (Builtin.«list.remove» ⟨[.ref l, x], []⟩)
      (fun A R s => s.heap.get? l = some { cls := .type "list", dict := dd, data := .seq items n, slots := sl } ∧ (∀ y, y ∈ items → EqAt A.in1 s y x (e y)) ∧ R (.ok (.ret .none)) { s with heap := s.heap.update l (Obj.mapSeq fun xs => xs.eraseIdxIfInBounds j) }) := by
  intro prog w A R s h
  obtain ⟨hp, g, d, tk, os⟩ := s; obtain ⟨hl, he, h⟩ := h
  wp_walk using wpAny_loadPart' hl
  exact ⟨plainId_quiet plain_remove_loop _, codeAny_builtin entry_remove_loop (by
    rw [Around.under_plainId plain_remove_loop _]
    exact remove_loopAt l items n dd sl x e j hj hit _ hs1 0 rfl (Nat.zero_le _) (fun m hm _ h2 => hno m hm h2) prog w A R _ ⟨hl, he, h⟩)⟩

theorem remove_loop_noneAt (l : Addr) (items : Array Value) (n : Nat) (dd : Option Addr) (sl : Array (Option Value)) (x : Value) (e : Value → Bool) (hno : ∀ m (hm : m < items.size), e items[m] = false) (k : Nat) :
    ∀ i : Nat, items.size - i = k → Meets (Builtin.«list.remove.loop» ⟨[.ref l, x, rawInt i], []⟩)
      (fun A R s => s.heap.get? l = some { cls := .type "list", dict := dd, data := .seq items n, slots := sl } ∧ (∀ y, y ∈ items → EqAt A.in1 s y x (e y)) ∧ raisesNew "ValueError" A R s) := by
  induction k with
  | zero =>
    intro i hk prog w A R s h
    obtain ⟨hp, g, d, tk, os⟩ := s; obtain ⟨hl, he, h⟩ := h
    wp_walk using wpAny_loadPart' hl
    have hi : items[((i : Nat) : Int).toNat]? = none := by simp; omega
    rw [hi]
    wp_walk
    exact_raiseError plainExc_ValueError h.1 h.2
  | succ k ih =>
    intro i hk prog w A R s h
    obtain ⟨hp, g, d, tk, os⟩ := s; obtain ⟨hl, he, h⟩ := h
    have hlt : i < items.size := by omega
    wp_walk using wpAny_loadPart' hl
    have hi : items[((i : Nat) : Int).toNat]? = some items[i] := by simp [hlt]
    have hc : ((i : Int) + 1) = ((i + 1 : Nat) : Int) := by push_cast; rfl
    rw [hi]
    refine wpAny_bind (he _ (Array.getElem_mem hlt) prog w _ _ ?_)
    rw [hno i hlt]
    wp_walk
    rw [hc]
    exact ⟨plainId_quiet plain_remove_loop _, codeAny_builtin entry_remove_loop (by
      rw [Around.under_plainId plain_remove_loop _]
      exact ih (i + 1) (by omega) prog w A R _ ⟨hl, he, h⟩)⟩

theorem list_remove_noneAt (l : Addr) (items : Array Value) (n : Nat) (dd : Option Addr) (sl : Array (Option Value)) (x : Value) (e : Value → Bool) (hno : ∀ m (hm : m < items.size), e items[m] = false) :
    Meets (Builtin.«list.remove» ⟨[.ref l, x], []⟩)
      (fun A R s => s.heap.get? l = some { cls := .type "list", dict := dd, data := .seq items n, slots := sl } ∧ (∀ y, y ∈ items → EqAt A.in1 s y x (e y)) ∧ raisesNew "ValueError" A R s) := by
  intro prog w A R s h
  obtain ⟨hp, g, d, tk, os⟩ := s; obtain ⟨hl, he, h⟩ := h
  wp_walk using wpAny_loadPart' hl
  exact ⟨plainId_quiet plain_remove_loop _, codeAny_builtin entry_remove_loop (by
    rw [Around.under_plainId plain_remove_loop _]
    exact remove_loop_noneAt l items n dd sl x e hno _ 0 rfl prog w A R _ ⟨hl, he, h⟩)⟩

/-- where the first equal one stands -/
theorem eraseFst_none {x : D} : ∀ {ds : List D}, eraseFst x ds = none → ∀ m (hm : m < ds.length), PyData.eqv (toP ds[m]) (toP x) = false
  | y :: r, h, m, hm => by
    unfold eraseFst at h
    split at h
    · cases h
    · rename_i hn
      cases m with
      | zero => simpa using hn
      | succ m =>
        have h' : eraseFst x r = none := by cases q : eraseFst x r with | none => rfl | some z => rw [q] at h; cases h
        exact eraseFst_none h' m (by simpa using hm)
theorem eraseFst_some {x : D} : ∀ {ds r : List D}, eraseFst x ds = some r → ∃ j, ∃ hj : j < ds.length, PyData.eqv (toP ds[j]) (toP x) = true ∧ (∀ m (hm : m < ds.length), m < j → PyData.eqv (toP ds[m]) (toP x) = false) ∧ r = ds.eraseIdx j
  | y :: ds, r, h => by
    unfold eraseFst at h
    split at h
    · rename_i hy
      cases h
      exact ⟨0, Nat.zero_lt_succ _, hy, fun m hm q => absurd q (Nat.not_lt_zero _), rfl⟩
    · rename_i hn
      obtain ⟨r', h', rfl⟩ := Option.map_eq_some_iff.mp h
      obtain ⟨j, hj, h1, h2, rfl⟩ := eraseFst_some h'
      refine ⟨j + 1, Nat.succ_lt_succ hj, h1, fun m hm q => ?_, rfl⟩
      cases m with
      | zero => simpa using hn
      | succ m => exact h2 m (by simpa using hm) (Nat.lt_of_succ_lt_succ q)

theorem rdAll_eraseIdx {f : TokMap} {Av : Addr → Prop} {h : Heap} : ∀ {ds : List D} {vs : List Value} (j : Nat), RdAll f Av h vs ds → RdAll f Av h (vs.eraseIdx j) (ds.eraseIdx j)
  | [], _, j, r => by cases r; exact RdAll.nil
  | d :: ds, _, j, ⟨v, ws, p, r1, r2⟩ => by
    subst p
    cases j with
    | zero => exact r2
    | succ j => exact .cons r1 (rdAll_eraseIdx j r2)

section
variable {prog : Program} {w : World} {A : Around} {E : Value → Shared → Prop} {s : Shared} {f : TokMap} {Av : Addr → Prop}

theorem remove_ok {l : Addr} {its : Array Value} {v : Value} {d : D} {ds r : List D} (hu : A.units + 100 < cLine) (hok : (okD d && okD (.list ds) && decide (ds.length ≤ lim)) = true) (p : PlainL s.heap l its) (hr : RdAll f Av s.heap its.toList ds) (hv : Rd f Av s.heap v d) (he : eraseFst d ds = some r)
    {Q : Value → Shared → Prop} (hQ : ∀ h' its', PlainL h' l its' → Heap.SameBut l s.heap h' → RdAll f Av s.heap its'.toList r → Q .none { s with heap := h' }) :
    wpAny (model prog w) A (call (.builtin "list.remove") [.ref l, v]) Q E s := by
  simp only [Bool.and_eq_true, decide_eq_true_eq] at hok
  obtain ⟨⟨ok1, ok2⟩, hsz⟩ := hok
  obtain ⟨ca, as, qa⟩ := Rd.reads d hv
  obtain ⟨cb, bs, qb⟩ := RdAll.reads ds hr
  have hdep := depthAll_le ok2
  have hea := items_eqAt (A := A) qb qa cb ca (by omega)
  obtain ⟨j, hj, h1, h2, rfl⟩ := eraseFst_some he
  have hlen := hr.length
  rw [Array.length_toList] at hlen
  have hget : ∀ m (hm : m < its.size) (hm' : m < ds.length), readOf s.heap its[m] = toP ds[m] := fun m hm hm' => by
    obtain ⟨u, hu1, hu2⟩ := hr.get (i := m) (d := ds[m]) (List.getElem?_eq_getElem hm')
    have : its[m] = u := by
      have e : its.toList[m]? = some its[m] := by simp [hm]
      rw [e] at hu1; exact Option.some.inj hu1
    rw [this]
    obtain ⟨c, as', q⟩ := Rd.reads _ hu2
    exact readOf_eq c q
  have p' := p
  obtain ⟨⟨cls, dd, data, sl⟩, n, ho, hc, hdn, hd⟩ := p
  simp only at hc hd hdn
  subst hc hd hdn
  have hjs : j < its.size := by omega
  have := lim_le
  refine call_meets PySem.F.slot_list_remove ⟨_, ho, rfl⟩ PySem.F.entry_list_remove (PySem.F.args_list_remove_2 _ _)
    (list_removeAt l its n none sl v (fun y => PyData.eqv (readOf s.heap y) (toP d)) j hjs (by rw [hget j hjs hj]; exact h1) (fun m hm q => by rw [hget m hm (by omega)]; exact h2 m (by omega) q) (by omega)) ⟨ho, hea, ?_⟩
  refine hQ _ _ (plainL_update p' _) (Heap.SameBut.update ..) ?_
  have e : (its.eraseIdxIfInBounds j).toList = its.toList.eraseIdx j := by
    unfold Array.eraseIdxIfInBounds
    rw [dif_pos hjs]; simp
  rw [e]
  exact rdAll_eraseIdx j hr

theorem remove_raises {l : Addr} {its : Array Value} {v : Value} {d : D} {ds : List D} (hh : A.handled = none) (hu : A.units + 100 < cLine) (hok : (okD d && okD (.list ds) && decide (ds.length ≤ lim)) = true) (p : PlainL s.heap l its) (hr : RdAll f Av s.heap its.toList ds) (hv : Rd f Av s.heap v d) (he : eraseFst d ds = none)
    {Q : Value → Shared → Prop} (hE : ∀ h' tk e, Heap.NewExc s.heap h' e "ValueError" → E (.ref e) { s with heap := h', toks := tk }) :
    wpAny (model prog w) A (call (.builtin "list.remove") [.ref l, v]) Q E s := by
  simp only [Bool.and_eq_true, decide_eq_true_eq] at hok
  obtain ⟨⟨ok1, ok2⟩, hsz⟩ := hok
  obtain ⟨ca, as, qa⟩ := Rd.reads d hv
  obtain ⟨cb, bs, qb⟩ := RdAll.reads ds hr
  have hdep := depthAll_le ok2
  have hea := items_eqAt (A := A) qb qa cb ca (by omega)
  have hlen := hr.length
  rw [Array.length_toList] at hlen
  have hget : ∀ m (hm : m < its.size) (hm' : m < ds.length), readOf s.heap its[m] = toP ds[m] := fun m hm hm' => by
    obtain ⟨u, hu1, hu2⟩ := hr.get (i := m) (d := ds[m]) (List.getElem?_eq_getElem hm')
    have : its[m] = u := by
      have e : its.toList[m]? = some its[m] := by simp [hm]
      rw [e] at hu1; exact Option.some.inj hu1
    rw [this]
    obtain ⟨c, as', q⟩ := Rd.reads _ hu2
    exact readOf_eq c q
  obtain ⟨⟨cls, dd, data, sl⟩, n, ho, hc, hdn, hd⟩ := p
  simp only at hc hd hdn
  subst hc hd hdn
  refine call_meets PySem.F.slot_list_remove ⟨_, ho, rfl⟩ PySem.F.entry_list_remove (PySem.F.args_list_remove_2 _ _)
    (list_remove_noneAt l its n none sl v (fun y => PyData.eqv (readOf s.heap y) (toP d)) (fun m hm => by rw [hget m hm (by omega)]; exact eraseFst_none he m (by omega))) ⟨ho, hea, hh, fun h' tk e hx => hE h' tk e hx⟩
end
end Mine
end

section
namespace Mine
open PySem PySem.W PyProof.Rows

theorem withToksE {α : Type} {M : Model} {A : Around} {t : Sem α} {Q : α → Shared → Prop} {E : Value → Shared → Prop} {s : Shared}
    (h : wpAny M A t (fun v s' => s.toks ≤ s'.toks → Q v s') (fun e s' => s.toks ≤ s'.toks → E e s') s) : wpAny M A t Q E s :=
  wpAny_mono (wpAny_toks_of (n := s.toks) (Nat.le_refl _) h) (fun _ _ q => q.2 q.1) fun _ _ q => q.2 q.1

theorem boot_VE : bootBuiltins "ValueError" = some (.type "ValueError") := by decide +kernel

section
variable {Γ : Ctxt} {kinds : List (Str × NameKind)} {A : Around} {env : Env} {s : Shared} {f : TokMap} {Av₀ : Addr → Prop} {own : Nat → Option Addr} {σ σ' : St} {E : Value → Shared → Prop}

/-- a ValueError that was made just now in this frame is caught here -/
theorem caught (ok : Γ.Ok) (x : SC Γ A env kinds Av₀ own σ f s) (hk : kinds.lookup ("ValueError" : Str) = some .globalImplicit) {h' : Heap} {tk : Nat} {e : Addr} (hx : Heap.NewExc s.heap h' e "ValueError") {b₀ : Stmt} {suite : List Stmt} {pv ph : Pos} {Q : Flow → Shared → Prop}
    (hQ : ∀ h'' (E' : Value → Shared → Prop), Keep A s.heap h'' → wpAny (model Γ.prog Γ.w) (A.mark (some (.ref e))) (execs (b₀ :: suite) env) Q E' { s with heap := h'', toks := tk }) :
    wpAny (model Γ.prog Γ.w) A (noteFrame (.ref e) env) (fun _ s₂ => wpAny (model Γ.prog Γ.w) A (setFlight (.ref e) none) (fun _ s₃ =>
      wpAny (model Γ.prog Γ.w) A (handleBy (.ref e) env [.ExceptHandler (some (.Name "ValueError" pv)) none (b₀ :: suite) ph]) Q E s₃) E s₂) E { s with heap := h', toks := tk } := by
  obtain ⟨outer, L, hfr, hL⟩ := x.fr
  obtain ⟨fr, hfr', hF⟩ := x.si.fr
  rw [hfr] at hfr'
  cases hfr'
  have hin : ∀ env' ∈ (env :: outer), ∀ b, env'.frame = some b → b ∈ (env :: outer).filterMap (·.frame) := fun env' he b hb => List.mem_filterMap.mpr ⟨env', he, hb⟩
  have hF' := funFrames_hide hF hin
  generalize hbase : hideAll s.heap ((env :: outer).filterMap (·.frame)) = base at hF'
  have inBase : ∀ b o, s.heap.get? b = some o → b ∉ (env :: outer).filterMap (·.frame) → base.get? b = some o := fun b o q n => by rw [← hbase]; exact hideAll_get _ q n
  have ofBase : ∀ b o, base.get? b = some o → s.heap.get? b = some o := fun b o q => by rw [← hbase] at q; exact of_hideAll _ q
  have notFr : ∀ b o, Γ.h₁.get? b = some o → b ∉ (env :: outer).filterMap (·.frame) := fun b o q hm => by rw [(hF.mem hm).1] at q; cases q
  have ground : ∀ {g : Heap}, base.StaysIn g → ∀ b o, Γ.h₁.get? b = some o → g.get? b = some o := fun k b o q => k b o (inBase b o (x.si.base b o q) (notFr b o q))
  obtain ⟨ob, t, he, hcls, hd⟩ := hx.there
  have hen : base.get? e = none := by
    cases q : base.get? e with
    | none => rfl
    | some o => have := ofBase e o q; rw [hx.new] at this; cases this
  have st' : base.StaysIn h' := fun b o q => hx.keeps b o (ofBase b o q)
  have fl' : h'.FunFrames base (env :: outer) := hF'.of_keeps fun b o hb _ => ⟨o, hx.keeps b o hb, rfl⟩
  unfold noteFrame
  simp only [hL]
  refine wpAny_bind (wpAny_field he hd (x := .none) rfl ?_)
  rw [if_neg (by decide)]
  refine wpAny_entryW (s := { s with heap := h', toks := tk }) (a0 := t) hfr fl' hL he st' hen hd (by simp) rfl fun h₂ hN => ?_
  obtain ⟨st₂, fl₂, tr₂, up₂⟩ := hN
  refine wpAny_setFlight_noneW (s := { s with heap := h₂, toks := tk }) st₂ fl₂ tr₂ fun h₃ st₃ fl₃ tr₃ up₃ => ?_
  have g₃ : h₃.Ns env.globals Γ.mg := by rw [x.ok.globals]; exact ok.B.g.keeps (ground st₃)
  have b₃ : h₃.Ns env.builtins Γ.mb := by rw [x.ok.builtins]; exact ok.B.b.keeps (ground st₃)
  refine wpAny_handleBy_builtin (X := "ValueError") (T := "ValueError") (b := true) PySem.F.isExc_ValueError PySem.F.notTuple_ValueError (by rw [isSubtype_type]; kernel_rfl)
    (Calls.Name_function_global x.ok.kind (by rw [kindOf_eq (s := s) x.ok]; exact hk) (Calls.loadGlobal_builtin g₃ (ok.B.miss _ (by simp)) b₃ ((ok.B.bi _ (by decide)).trans boot_VE) ⟨rfl, ?_, ?_⟩) (by decide))
  · obtain ⟨oe, ho, hc⟩ := tr₃.at.there
    exact ⟨oe, ho, hc.trans hcls⟩
  · simp only [if_true]
    refine wpAny_setFlight_noneW (s := { s with heap := h₃, toks := tk }) st₃ fl₃ tr₃.at fun h₄ st₄ fl₄ tr₄ up₄ => hQ h₄ _ ?_
    intro b o _ hb
    by_cases q : b ∈ (env :: outer).filterMap (·.frame)
    · obtain ⟨_, o', ho', hdn⟩ := hF.mem q
      rw [hb] at ho'; cases ho'
      obtain ⟨sl, e2⟩ := up₂ b o (hx.keeps b o hb) hdn
      have e4 := up₄ b _ (up₃ b _ e2 hdn) hdn
      refine ⟨_, e4, fun nf => absurd ?_ nf, rfl, rfl, rfl⟩
      obtain ⟨env', hm, hb'⟩ := List.mem_filterMap.mp q
      exact ⟨_, env', hfr, hm, hb'⟩
    · exact ⟨o, st₄ b o (inBase b o hb q), fun _ => rfl, .refl o⟩

theorem sx_copy (ok : Γ.Ok) {i : Nat} {e : C} {pf pc px p : Pos} (hk : storable kinds (Γ.tab i) = true) (hl : kinds.lookup ("list" : Str) = some .globalImplicit) (he : SE Γ kinds e) : SX Γ kinds (.copy i e pf pc px p) := fun σ σ' fl h A env s f Av₀ own E ao x => by
  simp only [exS_e1, exS_e2, exS_e3, exS_e4, exS_e5, exS_e6, exS_e7, exS_e8, exS_e9, exS_e10, exS_e11, exS_e12, exS_e13] at h
  obtain ⟨d, hd, h⟩ := Option.bind_eq_some_iff.mp h
  split at h
  · rename_i es
    split at h
    · rename_i hsz
      cases h
      refine wpAny_Assign_Name (call_type_args (r := .nil) ok x.frozen hl (by unfold isBuiltinName; simp) boot_list' (by decide) (by decide) ?_) rfl
      rw [back_cons]
      refine Calls.spliced_cons (evalF he hd ao x fun v h₁ tk₁ f₁ ht k₁ ex y r => Calls.spliced_nil ?_)
      obtain ⟨l, its, rfl, _, ⟨o, ho, hc, n, hdat⟩, r⟩ := r
      have hlen := r.length
      rw [Array.length_toList] at hlen
      refine call_list_seq (s := { s with heap := h₁, toks := tk₁ }) l (.inl rfl) ho hc hdat (fun h₂ c' hk₂ hD => ?_) (by have := lim_le; omega)
      have hnone : h₁.get? h₁.objs.size = none := size_none _ (Nat.le_refl _)
      refine SC.storeOG (s := { s with heap := h₁, toks := tk₁ }) ok y hk₂ hnone ⟨_, c', hD, rfl, rfl, rfl⟩ r hk fun h₃ tk₃ ht₃ k₃ z => ?_
      refine ⟨_, f₁, h₃, tk₃, rfl, Nat.le_trans ht ht₃, ex, z, (KeepX.of_keep k₁).trans (KeepX.weaken k₃ fun b o e q => wst_of_ws q), fun j l hj => ?_, rfl⟩
      unfold put1 at hj
      split at hj
      · cases hj
        refine .inr ?_
        cases q : s.heap.get? h₁.objs.size with
        | none => rfl
        | some o =>
          obtain ⟨o', e', _⟩ := k₁ _ o (fun q => q) q
          exact absurd (Heap.lt_size e') (Nat.lt_irrefl _)
      · exact .inl ⟨j, hj⟩
    · cases h
  · cases h

theorem sx_tryRemove (ok : Γ.Ok) {t y e : Nat} {pe py pt pa pn pc pf pv pk pr ph p : Pos} (hke : storable kinds (Γ.tab e) = true) (hline : (pa.endLine == pc.line) = true) (hve : kinds.lookup ("ValueError" : Str) = some .globalImplicit) (hne : e ≠ t) :
    SX Γ kinds (.tryRemove t y e pe py pt pa pn pc pf pv pk pr ph p) := fun σ σ' fl h A env s f Av₀ own E ao x => by
  simp only [exS_e1, exS_e2, exS_e3, exS_e4, exS_e5, exS_e6, exS_e7, exS_e8, exS_e9, exS_e10, exS_e11, exS_e12, exS_e13] at h
  obtain ⟨ds, hds, hl⟩ := Option.bind_eq_some_iff.mp h
  show wpAny _ A (exec (.Try [.For ((Tgt.one e pe).toE Γ.tab) ((It.of (.var y py)).toE Γ.tab) [.Expr (.Call (.Attribute (.Name (Γ.tab t) pt) "remove" pa) [.Name (Γ.tab e) pn] [] pc) pc] [] pf]
      [.ExceptHandler (some (.Name "ValueError" pv)) none [.Return (some (.Constant (.bool false) 0 pk)) pr] ph] [] [] p) env) _ E s
  refine wpAny_Try_except (wpAny_execs_cons (wpAny_mono (for_gen (t := .one e pe) (it := .of (.var y py)) (E := fun ev s₁ => wpAny (model Γ.prog Γ.w) A (noteFrame ev env) (fun _ s₂ => wpAny (model Γ.prog Γ.w) A (setFlight ev none) (fun _ s₃ =>
      wpAny (model Γ.prog Γ.w) A (handleBy ev env [.ExceptHandler (some (.Name "ValueError" pv)) none [.Return (some (.Constant (.bool false) 0 pk)) pr] ph]) (SOut Γ A env kinds Av₀ own s f σ' fl) E s₃) E s₂) E s₁)
      ok ao (sit_of (se_var ok y py)) (fun q => by cases q) (fun i hi => by rw [show i = e by simpa [Tgt.is] using hi]; exact hke) (remStep t e) ?_ x hds hl) (fun flow s' out => ?_) fun _ _ q => q))
  · intro σ₂ σ₃ fl₁ hstep hend h₄ tk₄ f₄ own₄ z ht ex k ho
    unfold remStep at hstep
    split at hstep
    · rename_i d hσe
      split at hstep
      · rename_i xs hσt
        split at hstep
        · rename_i hok
          obtain ⟨l, its, ds', e1, hl₀, hv, hp, hr⟩ := z.ow t _ hσt
          cases e1
          obtain ⟨v, hve', hvr⟩ := z.fz e d hσe
          have core : ∀ {Q : Value → Shared → Prop} {E' : Value → Shared → Prop}, wpAny (model Γ.prog Γ.w) A (call (.builtin "list.remove") [.ref l, v]) Q E' { s with heap := h₄, toks := tk₄ } →
              wpAny (model Γ.prog Γ.w) A (eval (.Call (.Attribute (.Name (Γ.tab t) pt) "remove" pa) [.Name (Γ.tab e) pn] [] pc) env) Q E' { s with heap := h₄, toks := tk₄ } := fun hcall => by
            refine wpAny_Call_method (T := "list") (id := "list.remove") rfl rfl hline PySem.F.plainAttrs_list PySem.F.slot_list_remove PySem.F.type_list_remove (name_at ok.T z.ok hv ⟨hp.isList.typeIs, fun a ha => ?_, ?_⟩)
            · cases ha
              obtain ⟨o, n, e1, c, dn, dd⟩ := hp
              exact ⟨o, e1, dn⟩
            · exact Calls.callWith_builtin rfl (Calls.evalArgs_plain (Calls.spliced_cons (name_at ok.T z.ok hve' (Calls.spliced_nil hcall))))
          split at hstep
          · rename_i rs her
            cases hstep
            refine wpAny_execs_cons (wpAny_Expr (core (remove_ok (s := { s with heap := h₄, toks := tk₄ }) ao.room hok hp hr hvr her fun h₅ its' hp₅ hs₅ hr₅ => ?_)) (noInteractive z.ok.kind) rfl)
            exact wpAny_execs_nil (turnNow (h' := h₄) (Nat.le_refl _) .refl (.refl f₄) z hσt hl₀ hs₅ hp₅ hr₅)
          · rename_i her
            cases hstep
            refine wpAny_execs_cons (wpAny_Expr (core (withToksE (remove_raises (s := { s with heap := h₄, toks := tk₄ }) ao.handled ao.room hok hp hr hvr her fun h₅ tk₅ ev hx => fun ht₅ => ?_))) (noInteractive z.ok.kind) rfl)
            obtain ⟨rfl, rfl⟩ := hend _ rfl
            refine PassesOwn.looking (K := fun ev s₂ => wpAny (model Γ.prog Γ.w) A (setFlight ev none) (fun _ s₃ => wpAny (model Γ.prog Γ.w) A (handleBy ev env [.ExceptHandler (some (.Name "ValueError" pv)) none [.Return (some (.Constant (.bool false) 0 pk)) pr] ph]) (SOut Γ A env kinds Av₀ own s f σ' (.ret (.bool false))) E s₃) E s₂) (E₁ := E) (.ref ev) _ ?_
            refine caught (s := { s with heap := h₄, toks := tk₄ }) ok z hve hx fun h₆ E' k₆ => wpAny_execs_cons (wpAny_Return_some (wpAny_Constant_bool ?_))
            have z₆ : SC Γ A env kinds Av₀ own₄ σ' f₄ { s with heap := h₆, toks := tk₅ } := z.keep (s₁ := { s with heap := h₆, toks := tk₅ }) ⟨h₆, tk₅, rfl, k₆⟩ (.refl f₄) (z.wd.mono ht₅)
            exact SOut.trans ht ex k ho ⟨own₄, f₄, h₆, tk₅, rfl, ht₅, .refl f₄, z₆, .of_keep k₆, fun i l hi => .inl ⟨i, hi⟩, .bool false, rfl, rfl⟩
        · cases hstep
      · cases hstep
    · cases hstep
  · cases fl with
    | next =>
      have hf : flow = .next := by obtain ⟨_, _, _, _, _, _, _, _, _, _, q⟩ := out; exact q
      subst hf
      exact wpAny_execs_nil (wpAny_execs_nil out)
    | brk =>
      have hf : flow = .brk := by obtain ⟨_, _, _, _, _, _, _, _, _, _, q⟩ := out; exact q
      subst hf; exact out
    | ret d =>
      have hf : ∃ v, flow = .ret v := by obtain ⟨_, _, _, _, _, _, _, _, _, _, v, q, _⟩ := out; exact ⟨v, q⟩
      obtain ⟨v, rfl⟩ := hf; exact out
end
end Mine
end

section
namespace Mine
open PySem PySem.W PyProof.Rows

section
variable {Γ : Ctxt} {kinds : List (Str × NameKind)}

theorem sx_for (ok : Γ.Ok) {t : Tgt} {it : It} {body : Ss} {p : Pos} (hit : SIt Γ kinds it) (hen : isEnumIt it = true → isTup t = true) (hst : ∀ i ∈ t.is, storable kinds (Γ.tab i) = true) (hbody : SXs Γ kinds body) : SX Γ kinds (.for t it body p) := fun σ σ' fl h A env s f Av₀ own E ao x => by
  simp only [exS_e1, exS_e2, exS_e3, exS_e4, exS_e5, exS_e6, exS_e7, exS_e8, exS_e9, exS_e10, exS_e11, exS_e12, exS_e13] at h
  obtain ⟨⟨ds, σ₁⟩, hi, hl⟩ := Option.bind_eq_some_iff.mp h
  unfold iterS at hi
  split at hi
  · rename_i ds' hds
    cases hi
    exact for_core ok ao hit hen hst hbody x hds hl
  · split at hi
    · rename_i y py hno
      split at hi
      · rename_i ds' hσ
        split at hi
        · rename_i hsz
          cases hi
          have x₁ := x.freeze hσ
          have hds : evIt Γ.tab Γ.G (.of (.var y py)) (St.frozen (upd σ y (false, .list ds))) = some ds := by
            have e : St.frozen (upd σ y (false, .list ds)) y = some (.list ds) := by unfold St.frozen upd; simp
            simp only [evIt_e1, evIt_e2, evIt_e3, evIt_e4, ev_e1, ev_e2, ev_e3, ev_e4, ev_e5, ev_e6, ev_e7, ev_e8, ev_e9, ev_e10, ev_e11, ev_e12, ev_e13, ev_e14, ev_e15, ev_e16, ev_e17, ev_e18, ev_e19, ev_e20, ev_e21, ev_e22, ev_e23, ev_e24, ev_e25, ev_e26, ev_e27, ev_e28, e, Option.bind_some]
            exact if_pos hsz
          refine wpAny_mono (for_core ok ao hit hen hst hbody x₁ hds hl) (fun flow s' o => SOut.trans (h₁ := s.heap) (tk₁ := s.toks) (Nat.le_refl _) (.refl f) .refl (fun i l hi => .inl ⟨i, (drop1_some hi).1⟩) o) fun _ _ q => q
        · cases hi
      · cases hi
    · cases hi
end

mutual
noncomputable def wfS (tab : Nat → Str) (K : List (Str × NameKind)) : S → Bool
  | .assign x e _ _ => storable K (tab x) && wfC tab e K
  | .own x es _ _ _ => storable K (tab x) && wfCs tab es K
  | .setitem _ i e _ _ _ => wfC tab i K && wfC tab e K
  | .append _ e _ pa p => (pa.endLine == p.line) && wfC tab e K
  | .extend _ e _ pa p => false
  | .aug x e _ _ => storable K (tab x) && wfC tab e K
  | .ite t a b _ => wfC tab t K && wfSs tab K a && wfSs tab K b
  | .for t it body _ => wfIt tab it K && (!isEnumIt it || isTup t) && t.is.all (fun i => storable K (tab i)) && wfSs tab K body
  | .ret e _ => wfC tab e K
  | .brk _ => true
  | .ownComp x elt t it ifs r sc pc _ _ => false
  | .copy x e _ _ _ _ => storable K (tab x) && glob K "list" && wfC tab e K
  | .tryRemove t _ e _ _ _ pa _ pc _ _ _ _ _ _ => storable K (tab e) && (pa.endLine == pc.line) && glob K "ValueError" && decide (e ≠ t)
noncomputable def wfSs (tab : Nat → Str) (K : List (Str × NameKind)) : Ss → Bool
  | .nil => true
  | .cons s r => wfS tab K s && wfSs tab K r
end

section
variable {tab : Nat → Str} {K : List (Str × NameKind)}
theorem wfS_e1 {x e q1 q2} : wfS tab K (.assign x e q1 q2) = (storable K (tab x) && wfC tab e K) := rfl
theorem wfS_e2 {x es q1 q2 q3} : wfS tab K (.own x es q1 q2 q3) = (storable K (tab x) && wfCs tab es K) := rfl
theorem wfS_e3 {q1 i e q2 q3 q4} : wfS tab K (.setitem q1 i e q2 q3 q4) = (wfC tab i K && wfC tab e K) := rfl
theorem wfS_e4 {q1 e q2 pa p} : wfS tab K (.append q1 e q2 pa p) = ((pa.endLine == p.line) && wfC tab e K) := rfl
theorem wfS_e5 {q1 e q2 pa p} : wfS tab K (.extend q1 e q2 pa p) = (false) := rfl
theorem wfS_e6 {x e q1 q2} : wfS tab K (.aug x e q1 q2) = (storable K (tab x) && wfC tab e K) := rfl
theorem wfS_e7 {t a b q1} : wfS tab K (.ite t a b q1) = (wfC tab t K && wfSs tab K a && wfSs tab K b) := rfl
theorem wfS_e8 {t it body q1} : wfS tab K (.for t it body q1) = (wfIt tab it K && (!isEnumIt it || isTup t) && t.is.all (fun i => storable K (tab i)) && wfSs tab K body) := rfl
theorem wfS_e9 {e q1} : wfS tab K (.ret e q1) = (wfC tab e K) := rfl
theorem wfS_e10 {q1} : wfS tab K (.brk q1) = (true) := rfl
theorem wfS_e11 {x elt t it ifs r sc pc q1 q2} : wfS tab K (.ownComp x elt t it ifs r sc pc q1 q2) = (false) := rfl
theorem wfS_e12 {x e q1 q2 q3 q4} : wfS tab K (.copy x e q1 q2 q3 q4) = (storable K (tab x) && glob K "list" && wfC tab e K) := rfl
theorem wfS_e13 {t q1 e q2 q3 q4 pa q5 pc q6 q7 q8 q9 q10 q11} : wfS tab K (.tryRemove t q1 e q2 q3 q4 pa q5 pc q6 q7 q8 q9 q10 q11) = (storable K (tab e) && (pa.endLine == pc.line) && glob K "ValueError" && decide (e ≠ t)) := rfl
theorem wfSs_e1 : wfSs tab K .nil = (true) := rfl
theorem wfSs_e2 {s r} : wfSs tab K (.cons s r) = (wfS tab K s && wfSs tab K r) := rfl
end

section
variable {Γ : Ctxt} (ok : Γ.Ok) (K : List (Str × NameKind))
include ok
mutual
theorem soundS : ∀ (st : S), wfS Γ.tab K st = true → SX Γ K st
  | .assign x e px p, h => by
    simp only [wfS_e1, wfS_e2, wfS_e3, wfS_e4, wfS_e5, wfS_e6, wfS_e7, wfS_e8, wfS_e9, wfS_e10, wfS_e11, wfS_e12, wfS_e13, Bool.and_eq_true] at h
    by_cases q : isComp e = true
    · cases e <;> first | (cases q; done) | skip
      rename_i elt g sc pc
      cases g with
      | done => have := h.2; simp [wfC_e1, wfC_e2, wfC_e3, wfC_e4, wfC_e5, wfC_e6, wfC_e7, wfC_e8, wfC_e9, wfC_e10, wfC_e11, wfC_e12, wfC_e13, wfC_e14, wfC_e15, wfC_e16, wfC_e17, wfC_e18, wfC_e19, wfC_e20, wfC_e21, wfC_e22, wfC_e23, wfC_e24, wfC_e25, wfC_e26, wfC_e27, wfC_e28] at this
      | gen t it ifs r => exact sx_assign_comp ok (compOk ok h.2) h.1
    · exact sx_assign_plain ok (by simpa using q) h.1 (soundC ok e K h.2).1
  | .own x es pe px p, h => by
    simp only [wfS_e1, wfS_e2, wfS_e3, wfS_e4, wfS_e5, wfS_e6, wfS_e7, wfS_e8, wfS_e9, wfS_e10, wfS_e11, wfS_e12, wfS_e13, Bool.and_eq_true] at h
    exact sx_own ok h.1 (soundCs ok es K h.2).1
  | .setitem x i e px ps p, h => by
    simp only [wfS_e1, wfS_e2, wfS_e3, wfS_e4, wfS_e5, wfS_e6, wfS_e7, wfS_e8, wfS_e9, wfS_e10, wfS_e11, wfS_e12, wfS_e13, Bool.and_eq_true] at h
    exact sx_setitem ok (soundC ok i K h.1).1 (soundC ok e K h.2).1
  | .append x e px pa p, h => by
    simp only [wfS_e1, wfS_e2, wfS_e3, wfS_e4, wfS_e5, wfS_e6, wfS_e7, wfS_e8, wfS_e9, wfS_e10, wfS_e11, wfS_e12, wfS_e13, Bool.and_eq_true] at h
    exact sx_append ok h.1 (soundC ok e K h.2).1
  | .extend x e px pa p, h => nomatch (show false = true from h)
  | .aug x e px p, h => by
    simp only [wfS_e1, wfS_e2, wfS_e3, wfS_e4, wfS_e5, wfS_e6, wfS_e7, wfS_e8, wfS_e9, wfS_e10, wfS_e11, wfS_e12, wfS_e13, Bool.and_eq_true] at h
    exact sx_aug ok h.1 (soundC ok e K h.2).1
  | .ite t a b p, h => by
    simp only [wfS_e1, wfS_e2, wfS_e3, wfS_e4, wfS_e5, wfS_e6, wfS_e7, wfS_e8, wfS_e9, wfS_e10, wfS_e11, wfS_e12, wfS_e13, Bool.and_eq_true] at h
    exact sx_ite (soundC ok t K h.1.1).2 (soundSs a h.1.2) (soundSs b h.2)
  | .for t it body p, h => by
    simp only [wfS_e1, wfS_e2, wfS_e3, wfS_e4, wfS_e5, wfS_e6, wfS_e7, wfS_e8, wfS_e9, wfS_e10, wfS_e11, wfS_e12, wfS_e13, Bool.and_eq_true, List.all_eq_true, Bool.or_eq_true, Bool.not_eq_true'] at h
    exact sx_for ok (soundIt ok it K h.1.1.1) (fun q => h.1.1.2.elim (fun z => by rw [q] at z; cases z) id) h.1.2 (soundSs body h.2)
  | .ret e p, h => by
    simp only [wfS_e1, wfS_e2, wfS_e3, wfS_e4, wfS_e5, wfS_e6, wfS_e7, wfS_e8, wfS_e9, wfS_e10, wfS_e11, wfS_e12, wfS_e13] at h
    exact sx_ret (soundC ok e K h).1
  | .brk p, h => sx_brk
  | .ownComp x elt t it ifs r sc pc px p, h => nomatch (show false = true from h)
  | .copy x e pf pc px p, h => by
    simp only [wfS_e1, wfS_e2, wfS_e3, wfS_e4, wfS_e5, wfS_e6, wfS_e7, wfS_e8, wfS_e9, wfS_e10, wfS_e11, wfS_e12, wfS_e13, Bool.and_eq_true] at h
    exact sx_copy ok h.1.1 (glob_eq h.1.2) (soundC ok e K h.2).1
  | .tryRemove t y e pe py pt pa pn pc pf pv pk pr ph p, h => by
    simp only [wfS_e1, wfS_e2, wfS_e3, wfS_e4, wfS_e5, wfS_e6, wfS_e7, wfS_e8, wfS_e9, wfS_e10, wfS_e11, wfS_e12, wfS_e13, Bool.and_eq_true, decide_eq_true_eq] at h
    exact sx_tryRemove ok h.1.1.1 h.1.1.2 (glob_eq h.1.2) h.2
theorem soundSs : ∀ (st : Ss), wfSs Γ.tab K st = true → SXs Γ K st
  | .nil, h => sxs_nil
  | .cons s r, h => by
    simp only [wfSs_e1, wfSs_e2, Bool.and_eq_true] at h
    exact sxs_cons (soundS s h.1) (soundSs r h.2)
end
end

/-! a def is called -/
theorem call_def_t {prog : Program} {w : World} {A : Around} {s : Shared} {R : Result → Shared → Prop} {a : Addr} {o : Obj} {fd : FuncData} {body : List Stmt} {vals : List Value} {binds : List (Str × Value)}
    (hroom : A.depth < recursionLimit) (ho : s.heap.get? a = some o) (hdata : o.data = .func fd) (hlim : s.heap.NoLimit) (hcd : s.heap.CodeRec fd.code fd.qualname)
    (hbody : fd.body = .stmts body) (hbind : bindArgs fd ⟨vals, []⟩ = pure binds) (hclo : fd.closure = [])
    (hkind : ∀ x ∈ binds, fd.scope.names.lookup x.1 = some .local ∨ (fd.scope.names.lookup x.1 = some .cell ∧ ((cellsFrom (s.heap.objs.size + 1) fd.scope.names []).lookup x.1).isSome = true))
    (h : ∀ s₁, s.toks ≤ s₁.toks → InCallC s (callEnvC fd s.heap.objs.size a).locals (bindL (callEnvC fd s.heap.objs.size a).kindOf binds fun _ => none) (callEnvC fd s.heap.objs.size a).cells
        (bindC (callEnvC fd s.heap.objs.size a).kindOf binds fun _ => none) s₁ →
      wpAny (model prog w) (A.deeper (callEnvC fd s.heap.objs.size a)) (execs body (callEnvC fd s.heap.objs.size a)) (fun f s' => R (.ok (.ret (match f with | .ret v => v | _ => .none))) s') (fun _ _ => False) s₁)
    (hco : fd.scope.isCoroutine = false) (hgen : fd.scope.isGenerator = false) (hk : fd.scope.kind = .function) :
    codeAny (model prog w) A (.call (.ref a) ⟨vals, []⟩) R s := by
  refine codeAny_call_function hroom ho hdata hco hgen hbody hcd ?_
  rw [hbind, hclo]
  refine wpAny_pure (withToks (wpAny_newFunctionEnv_cells hk hkind fun env he s' x ht => ?_))
  subst he
  exact ⟨hlim.keeps x.toInCall.keep, codeAny_func (wpAny_mono (h s' ht x) (fun _ _ q => q) fun _ _ q => q.elim)⟩
end Mine
end

section
namespace Mine
open PySem PySem.W PyProof.Rows

/-- a def of the table, as the top has left it, and what was checked of it -/
structure DefOk (tab : Nat → Str) (h₁ : Heap) (mg : Str → Option Value) (i : Nat) (ps : List Nat) (body : Ss) : Prop where
  there : ∃ (name : Str) (params : Arguments) (scope : Scope) (pm cd doc : Value) (a : Addr) (o : Obj),
    mg (tab i) = some (.ref a) ∧ h₁.get? a = some o ∧ o.data = .func (Calls.docDef name params (body.toE tab) scope pm cd doc) ∧ h₁.CodeRec cd name ∧
    (∀ vs : List Value, vs.length = ps.length → bindArgs (Calls.docDef name params (body.toE tab) scope pm cd doc) ⟨vs, []⟩ = pure ((ps.map tab).zip vs)) ∧
    scope.isCoroutine = false ∧ scope.isGenerator = false ∧ scope.kind = .function ∧ (scope.names.map (·.1)).Nodup ∧ (∀ x ∈ scope.names, x.2 ≠ .free) ∧
    (∀ p ∈ ps, storable scope.names (tab p) = true) ∧ wfSs tab scope.names body = true

section
variable {f : TokMap} {Av : Addr → Prop} {h : Heap} {tab : Nat → Str} {kindOf : Str → Option NameKind}

/-- what the parameters hold -/
noncomputable def ParRel (tab : Nat → Str) (kindOf : Str → Option NameKind) (f : TokMap) (Av : Addr → Prop) (h : Heap) (σ : St) (m cm : Str → Option Value) : Prop :=
  ∀ i b d, σ i = some (b, d) → b = false ∧ ∃ v, Rd f Av h v d ∧ ((kindOf (tab i) = some .local ∧ m (tab i) = some v) ∨ (kindOf (tab i) = some .cell ∧ cm (tab i) = some v))

theorem parRel_go (T : TabOk tab) : ∀ (ps : List Nat) (ds : List D) (vs : List Value) (σ : St) (m cm : Str → Option Value), RdAll f Av h vs ds → (∀ p ∈ ps, kindOf (tab p) = some .local ∨ kindOf (tab p) = some .cell) → ParRel tab kindOf f Av h σ m cm →
    ParRel tab kindOf f Av h (argGo ps ds σ) (bindL kindOf ((ps.map tab).zip vs) m) (bindC kindOf ((ps.map tab).zip vs) cm)
  | [], ds, vs, σ, m, cm, r, hk, P => P
  | i :: ps, [], vs, σ, m, cm, r, hk, P => by
    cases r; exact P
  | i :: ps, d :: ds, _, σ, m, cm, ⟨v, ws, e, r1, r2⟩, hk, P => by
    subst e
    have hki := hk i (List.mem_cons_self ..)
    show ParRel tab kindOf f Av h (argGo ps ds (upd σ i (false, d))) (bindL kindOf ((ps.map tab).zip ws) _) (bindC kindOf ((ps.map tab).zip ws) _)
    refine parRel_go T ps ds ws _ _ _ r2 (fun p hp => hk p (List.mem_cons_of_mem _ hp)) fun j b dj hj => ?_
    unfold upd at hj
    by_cases q : j = i
    · subst q
      rw [if_pos rfl] at hj
      cases hj
      refine ⟨rfl, v, r1, ?_⟩
      rcases hki with hl | hc
      · left; refine ⟨hl, ?_⟩; rw [if_pos hl]; simp
      · right
        have hn : ¬ kindOf (tab j) = some .local := by rw [hc]; decide
        refine ⟨hc, ?_⟩; rw [if_neg hn]; simp
    · rw [if_neg q] at hj
      obtain ⟨hb, u, hu, hv⟩ := P j b dj hj
      have hne : tab j ≠ tab i := fun e => q (T.inj _ _ e)
      refine ⟨hb, u, hu, hv.imp (fun ⟨a, b⟩ => ⟨a, ?_⟩) fun ⟨a, b⟩ => ⟨a, ?_⟩⟩
      · split
        · simp [hne, b]
        · exact b
      · split
        · exact b
        · simp [hne, b]
end

section
variable {Γ : Ctxt}

theorem def_call (ok : Γ.Ok) {i : Nat} {ps : List Nat} {body : Ss} (D : DefOk Γ.tab Γ.h₁ Γ.mg i ps body) {ds : List Mine.D} {d : Mine.D} (hd : evDef Γ.tab Γ.G ps body ds = some d) :
    ∃ a fd o, Γ.mg (Γ.tab i) = some (.ref a) ∧ Γ.h₁.get? a = some o ∧ o.data = .func fd ∧
    ∀ (A : Around) (s : Shared) (f : TokMap) (Av : Addr → Prop) (vs : List Value) (E : Value → Shared → Prop), AOk (Γ.lvl + 1) A → SI Γ.h₁ A s.heap → (∀ a, Av a → ∃ o, s.heap.get? a = some o) → Wd f s.toks → RdAll f Av s.heap vs ds →
      wpAny (model Γ.prog Γ.w) A (call (.ref a) vs) (Got A f Av s d) E s ∧
      codeAny (model Γ.prog Γ.w) A (.call (.ref a) ⟨vs, []⟩) (fun r s' => ∃ v, r = .ok (.ret v) ∧ Got A f Av s d v s') s := by
  obtain ⟨name, params, scope, pm, cd, doc, a, o, hm, ho, hod, hcd, hbind, hco, hgen, hk, hnd, hfree, hpar, hwf⟩ := D.there
  refine ⟨a, _, o, hm, ho, hod, fun A s f Av vs E ao si av wd r => ?_⟩
  suffices hs : codeAny (model Γ.prog Γ.w) A (.call (.ref a) ⟨vs, []⟩) (fun r s' => ∃ v, r = .ok (.ret v) ∧ Got A f Av s d v s') s from
    ⟨wpAny_call (codeAny_mono hs fun r s' ⟨v, e, g⟩ => by subst e; exact g), hs⟩
  unfold evDef at hd
  split at hd
  · rename_i hlen
    have hvl : vs.length = ps.length := r.length.trans hlen.symm
    split at hd
    · rename_i σ' d' hex
      cases hd
      have hparK : ∀ p ∈ ps, scope.names.lookup (Γ.tab p) = some .local ∨ scope.names.lookup (Γ.tab p) = some .cell := fun p hp => storable_or (hpar p hp)
      have hcell : ∀ n, scope.names.lookup n = some .cell → ∃ c, (cellsFrom (s.heap.objs.size + 1) scope.names []).lookup n = some c := fun n hn => by
        obtain ⟨c, h1, _⟩ := cellsFrom_lookup_own scope.names (s.heap.push default) [] n hnd hn
        rw [Heap.size_push] at h1
        exact ⟨c, h1⟩
      refine (call_def_t (fd := Calls.docDef name params (body.toE Γ.tab) scope pm cd doc) (by have := ao.depth; unfold recursionLimit; omega) (si.base a o ho) hod (ok.B.lim.keeps si.base) (hcd.keeps si.base) rfl (hbind vs hvl) rfl
        (fun x hx => ?_) (fun s₁ ht X => ?_) hco hgen hk)
      · have : x.1 ∈ ps.map Γ.tab := (List.of_mem_zip (show (x.1, x.2) ∈ _ from hx)).1
        obtain ⟨p, hp, e⟩ := List.mem_map.mp this
        rw [← e]
        rcases hparK p hp with q | q
        · exact .inl q
        · obtain ⟨c, hc⟩ := hcell _ q
          exact .inr ⟨q, by show (List.lookup _ (cellsFrom (s.heap.objs.size + 1) scope.names [])).isSome = true; rw [hc]; rfl⟩
      · generalize henv : callEnvC (Calls.docDef name params (body.toE Γ.tab) scope pm cd doc) s.heap.objs.size a = env at X ⊢
        have e1 : env.scope = scope := by rw [← henv]; rfl
        have e2 : env.locals = s.heap.objs.size := by rw [← henv]; rfl
        have e3 : env.globals = mainGlobals := by rw [← henv]; rfl
        have e4 : env.builtins = builtinsNs := by rw [← henv]; rfl
        have e5 : env.cells = cellsFrom (s.heap.objs.size + 1) scope.names [] := by rw [← henv]; rfl
        have e6 : env.frame = some s.heap.objs.size := by rw [← henv]; rfl
        obtain ⟨h', tk, rfl, hkeep⟩ := X.done
        have ht' : s.toks ≤ tk := ht
        have hns := X.toInCall.ns
        have hnone : ∀ b, s.heap.objs.size ≤ b → s.heap.get? b = none := fun b hb => size_none _ hb
        have kindE : ∀ n, env.kindOf n = scope.names.lookup n := fun n => by unfold Env.kindOf; rw [e1]
        have kh : Keep A s.heap h' := .of_all hkeep
        have si' : SI Γ.h₁ (A.deeper env) h' := by
          refine ⟨fun b o e => hkeep b o (si.base b o e), ?_⟩
          obtain ⟨fr, hf, hF⟩ := (si.keep kh).fr
          refine ⟨env :: fr, by show Option.map (env :: ·) A.frames = _; rw [hf]; rfl, ?_, ?_, hF⟩
          · rw [e1, hk]; decide
          · obtain ⟨o', es, ep, ho', hd', _⟩ := hns
            rw [e2] at ho'
            exact ⟨s.heap.objs.size, o', e6, base_none si (hnone _ (Nat.le_refl _)), ho', fun vs q => by rw [hd'] at q; cases q⟩
        have P := parRel_go (f := f) (Av := Av) (h := h') (kindOf := env.kindOf) ok.T ps ds vs (fun _ => none) (fun _ => none) (fun _ => none) (r.keep kh (.refl f)) (fun p hp => by rw [kindE]; exact hparK p hp) (fun i b d hi => by cases hi)
        have cellAt : ∀ n, env.kindOf n = some .cell → ∃ c, env.cells.lookup n = some c ∧ h'.IsCell c (bindC env.kindOf ((ps.map Γ.tab).zip vs) (fun _ => none) n) := fun n hn => by
          rw [kindE] at hn
          obtain ⟨c, hc⟩ := hcell n hn
          rw [← e5] at hc
          exact ⟨c, hc, X.cell n c hc⟩
        have sc : SC Γ (A.deeper env) env scope.names Av (fun _ => none) (argSt ps ds) f { s with heap := h', toks := tk } := by
          refine ⟨si', ⟨by rw [e1]; exact hk, by rw [e1], e3, e4, ⟨_, hns⟩, fun n hn => ?_, X.apart⟩, by rw [e2]; exact base_none si (hnone _ (Nat.le_refl _)), fun n c hc => ?_, fun b hb => let ⟨o, e⟩ := av b hb; ⟨o, hkeep b o e⟩, wd.mono ht', fun j dj hj => ?_, fun j dj hj => ?_, (fun j l hj => by cases hj), (fun j j' l hj => by cases hj), let ⟨fr, hf, _⟩ := si.fr; ⟨fr, _, by show Option.map (env :: ·) A.frames = _; rw [hf]; rfl, e6⟩⟩
          · rcases hn with hn | hn
            · obtain ⟨c, h1, h2⟩ := cellAt n hn; exact ⟨c, _, h1, h2⟩
            · rw [kindE] at hn
              exact absurd rfl (hfree _ (mem_of_lookup hn))
          · have := X.above n c (mem_of_lookup hc)
            rw [e2] at this
            exact base_none si (hnone c (Nat.le_of_lt this))
          · obtain ⟨_, v, hv, hp⟩ := P j false dj hj
            refine ⟨v, ?_, Rd.weaken (fun a q => q.elim id fun ⟨_, q⟩ => by cases q) _ hv⟩
            rcases hp with ⟨hl, hmv⟩ | ⟨hc, hcv⟩
            · exact .inl ⟨hl, _, hns, hmv⟩
            · obtain ⟨c, h1, h2⟩ := cellAt _ hc
              rw [hcv] at h2
              exact .inr ⟨.inl hc, c, h1, h2⟩
          · obtain ⟨hb, _⟩ := P j true dj hj
            cases hb
        have ao' : AOk Γ.lvl (A.deeper env) := ⟨ao.handled, by have := ao.depth; show A.depth + 1 + Γ.lvl ≤ 900; omega, by have := ao.units; show A.units + 3 + 10 * Γ.lvl + 300 ≤ 9900; omega⟩
        refine wpAny_mono (soundSs ok scope.names body hwf _ σ' _ hex (A.deeper env) env _ f Av _ (fun _ _ => False) ao' sc) (fun flow s₂ out => ?_) fun _ _ q => q
        obtain ⟨own', f', h₂, tk₂, rfl, ht₂, ex, sc', k₂, _, v, rfl, rv⟩ := out
        refine ⟨v, rfl, ⟨h₂, tk₂, rfl, fun b o _ e => ?_⟩, f', ex, sc'.wd, rv⟩
        have hb : b < s.heap.objs.size := Heap.lt_size e
        have nW : ¬ WSt env (fun _ => none) b := by
          rintro (⟨x, ⟨_, q⟩ | ⟨_, q⟩⟩ | ⟨j, q⟩)
          · rw [e2] at q; rw [q] at hb; exact Nat.lt_irrefl _ hb
          · have := X.above x b (mem_of_lookup q)
            rw [e2] at this
            exact Nat.lt_asymm hb this
          · cases q
        obtain ⟨o', e', hx, sm⟩ := k₂ b o nW (hkeep b o e)
        refine ⟨o', e', fun nf => hx fun ⟨fr', env', hf', hm', hb'⟩ => ?_, sm⟩
        obtain ⟨fr, hf, _⟩ := si.fr
        have hf'' : (A.deeper env).frames = some (env :: fr) := by show Option.map (env :: ·) A.frames = _; rw [hf]; rfl
        rw [hf''] at hf'; cases hf'
        rcases List.mem_cons.mp hm' with rfl | hm'
        · rw [e6] at hb'; cases hb'; exact Nat.lt_irrefl _ hb
        · exact nf ⟨fr, env', hf, hm', hb'⟩
    · cases hd
  · cases hd
end
end Mine
end

section
namespace Mine
open PySem PySem.W PyProof.Rows

/-! the table of names -/
noncomputable def mkTab (l : List Str) (i : Nat) : Str := match l[i]? with
  | some x => x
  | none => ⟨#[1000 + i]⟩
noncomputable def tabGood (l : List Str) : Bool := decide l.Nodup && l.all fun x => x.cps.toList.all (· < 1000) && !(x == ("__debug__" : Str)) && !(x == ("__classdict__" : Str))
theorem mkTab_ok {l : List Str} (h : tabGood l = true) : TabOk (mkTab l) := by
  unfold tabGood at h
  simp only [Bool.and_eq_true, decide_eq_true_eq, List.all_eq_true, Bool.not_eq_true'] at h
  obtain ⟨hn, ha⟩ := h
  have mem : ∀ i x, l[i]? = some x → x ∈ l := fun i x e => List.mem_of_getElem? e
  have big : ∀ i x, x ∈ l → x ≠ (⟨#[1000 + i]⟩ : Str) := fun i x hx e => by
    have := (ha x hx).1.1 (1000 + i) (by rw [e]; simp)
    omega
  refine ⟨fun i j e => ?_, fun i => ?_, fun i => ?_⟩
  · unfold mkTab at e
    split at e
    · rename_i x hx
      split at e
      · rename_i y hy
        subst e
        have hi := (List.getElem?_eq_some_iff.mp hx).1
        exact (List.getElem?_inj hi hn).mp (hx.trans hy.symm)
      · exact absurd e (big j x (mem i x hx))
    · split at e
      · rename_i y hy
        exact absurd e.symm (big i y (mem j y hy))
      · have e1 : (#[1000 + i] : Array Nat) = #[1000 + j] := congrArg Str.cps e
        have := congrArg Array.toList e1
        simp at this
        exact this
  · unfold mkTab
    split
    · rename_i x hx; exact (ha x (mem i x hx)).1.2
    · rw [beq_eq_false_iff_ne]
      intro e
      have e1 := congrArg (fun x : Str => x.cps.size) e
      have e2 : (1 : Nat) = _ := e1
      revert e2
      decide
  · unfold mkTab
    split
    · rename_i x hx; exact (ha x (mem i x hx)).2
    · rw [beq_eq_false_iff_ne]
      intro e
      have e1 := congrArg (fun x : Str => x.cps.size) e
      have e2 : (1 : Nat) = _ := e1
      revert e2
      decide

/-! a program's defs, level by level -/
noncomputable abbrev Defs := List (Nat × List Nat × Ss)
noncomputable def Gfix (tab : Nat → Str) (defs : Defs) : Nat → Or
  | 0 => fun _ _ => none
  | n + 1 => fun i ds => match defs.lookup i with
    | some (ps, b) => evDef tab (Gfix tab defs n) ps b ds
    | none => none

noncomputable def DefsOk (tab : Nat → Str) (h₁ : Heap) (mg : Str → Option Value) (defs : Defs) : Prop := ∀ i ps b, defs.lookup i = some (ps, b) → DefOk tab h₁ mg i ps b

theorem gfix_ok {prog : Program} {w : World} {tab : Nat → Str} {h₁ : Heap} {mg mb : Str → Option Value} {defs : Defs} (T : TabOk tab) (B : BaseOk h₁ mg mb) (D : DefsOk tab h₁ mg defs) : ∀ n, CallOk prog w tab h₁ mg n (Gfix tab defs n)
  | 0 => fun i ds d h => by cases h
  | n + 1 => fun i ds d h => by
    unfold Gfix at h
    split at h
    · rename_i ps b hl
      have ok : (Ctxt.mk prog w tab h₁ mg mb (Gfix tab defs n) n).Ok := ⟨T, B, gfix_ok T B D n⟩
      obtain ⟨a, fd, o, h1, h2, h3, h4⟩ := def_call (Γ := Ctxt.mk prog w tab h₁ mg mb (Gfix tab defs n) n) ok (D i ps b hl) h
      exact ⟨a, fd, o, h1, h2, h3, fun A s f Av vs E ao si av wd r => (h4 A s f Av vs E ao si av wd r).1⟩
    · cases h

/-- a ground's free names -/
theorem ns_none_of {K : Frag} {h : Heap} {a : Addr} {mg : Str → Option Value} {n : Str} (X : K.In h) (G : h.Ns a mg) (e : nsIn K a n = some none) : mg n = none := by
  obtain ⟨o, es, ep, ho, hd, _, hf⟩ := G
  unfold nsIn at e
  split at e
  · rename_i c d es' n' sl q
    have := X _ _ q
    rw [ho] at this
    cases this
    cases hd
    split at e
    · cases e
    · rename_i he
      rw [← hf]
      unfold nsFind findBy
      rw [← Array.find?_toList, he]
      rfl
  · cases e

/-- one def, as the top's records tell it -/
noncomputable def recFits (tab : Nat → Str) (r : DefRec) (ps : List Nat) (body : Ss) : Bool :=
  !r.scope.isCoroutine && !r.scope.isGenerator && decide (r.scope.kind = .function) && decide ((r.scope.names.map (·.1)).Nodup) && (r.scope.names.all fun x => x.2 != .free) && ps.all (fun p => storable r.scope.names (tab p)) && wfSs tab r.scope.names body

theorem defOk_of {p : Program} {loose : List Str} {mean : ExcName → Option Value} {mg mb : Str → Option Value} {h : Heap} (T : Top p loose mean mg mb h) {tab : Nat → Str} {i : Nat} {ps : List Nat} {body : Ss} (r : DefRec) (hr : r ∈ recsOf p)
    (hn : r.name = tab i) (hb : r.body = body.toE tab) (hf : recFits tab r ps body = true)
    (hbind : ∀ pm cd doc (vs : List Value), vs.length = ps.length → bindArgs (Calls.docDef r.name r.params r.body r.scope pm cd doc) ⟨vs, []⟩ = pure ((ps.map tab).zip vs)) : DefOk tab h mg i ps body := by
  obtain ⟨a, o, pm, code, doc, h1, h2, h3, h4⟩ := T.fn r hr
  unfold recFits at hf
  simp only [Bool.and_eq_true, Bool.not_eq_true', decide_eq_true_eq, List.all_eq_true] at hf
  obtain ⟨⟨⟨⟨⟨⟨f1, f2⟩, f3⟩, f4⟩, f5⟩, f6⟩, f7⟩ := hf
  refine ⟨r.name, r.params, r.scope, pm, code, doc, a, o, by rw [← hn]; exact h1, h2, by rw [← hb]; exact h3, h4, fun vs hl => by rw [← hb]; exact hbind pm code doc vs hl, f1, f2, f3, f4, fun x hx => ?_, f6, f7⟩
  have := f5 x hx
  simpa using this

theorem keep_caller {h h' : Heap} (k : Keep callerA h h') : ∀ b o, h.get? b = some o → h'.get? b = some o := fun b o e => by
  obtain ⟨o', e', q, _⟩ := k b o (fun q => q) e
  rw [q (by rintro ⟨fr, env, hf, hm, _⟩; cases hf; cases hm)] at e'
  exact e'

theorem rdAll_raw {f : TokMap} {Av : Addr → Prop} {h : Heap} : ∀ {vs : List Value} {ns : List Int}, IntsAre vs ns → RdAll f Av h vs (ns.map .raw)
  | _, _, .nil => rfl
  | _, _, .cons n t h => .cons ⟨t, rfl⟩ (rdAll_raw h)

end Mine
end

section
namespace Mine
open PySem PySem.W PyProof.Rows

/-- the parameters take just their values, by place -/
noncomputable def BindOk (a : Arguments) (ns : List Str) : Prop := ∀ (n : Str) (body : List Stmt) (sc : Scope) (pm cd doc : Value) (vs : List Value), vs.length = ns.length → bindArgs (Calls.docDef n a body sc pm cd doc) ⟨vs, []⟩ = pure (ns.zip vs)
noncomputable def BindsOk : List Arguments → List (List Str) → Prop
  | a :: as, n :: ns => BindOk a n ∧ BindsOk as ns
  | _, _ => True
theorem len1 {vs : List Value} (h : vs.length = 1) : ∃ a, vs = [a] := by
  cases vs with
  | nil => cases h
  | cons a r => cases r with
    | nil => exact ⟨a, rfl⟩
    | cons b r => cases h
theorem len2 {vs : List Value} (h : vs.length = 2) : ∃ a b, vs = [a, b] := by
  cases vs with
  | nil => cases h
  | cons a r =>
    obtain ⟨b, e⟩ := len1 (vs := r) (Nat.succ.inj h)
    exact ⟨a, b, by rw [e]⟩
theorem len3 {vs : List Value} (h : vs.length = 3) : ∃ a b c, vs = [a, b, c] := by
  cases vs with
  | nil => cases h
  | cons a r =>
    obtain ⟨b, c, e⟩ := len2 (vs := r) (Nat.succ.inj h)
    exact ⟨a, b, c, by rw [e]⟩

theorem defsOk_go {p : Program} {loose : List Str} {mean : ExcName → Option Value} {mg mb : Str → Option Value} {h : Heap} (T : Top p loose mean mg mb h) {tab : Nat → Str} : ∀ (rs : List DefRec) (defs : Defs), (∀ r ∈ rs, r ∈ recsOf p) →
    rs.map (fun r => (r.name, r.body)) = defs.map (fun x => (tab x.1, x.2.2.toE tab)) → ((rs.zip defs).all fun x => recFits tab x.1 x.2.2.1 x.2.2.2) = true → BindsOk (rs.map (·.params)) (defs.map fun x => x.2.1.map tab) → DefsOk tab h mg defs
  | [], [], _, _, _, _ => fun i ps b e => by cases e
  | [], d :: ds, _, e, _, _ => by cases e
  | r :: rs, [], _, e, _, _ => by cases e
  | r :: rs, d :: ds, hm, e, hf, hb => fun i ps b el => by
    simp only [List.map_cons, List.cons.injEq, Prod.mk.injEq] at e
    simp only [List.zip_cons_cons, List.all_cons, Bool.and_eq_true] at hf
    obtain ⟨⟨e1, e2⟩, e3⟩ := e
    obtain ⟨f1, f3⟩ := hf
    obtain ⟨f2, hb⟩ := hb
    obtain ⟨j, qs, c⟩ := d
    simp only [List.lookup] at el
    split at el
    · rename_i hj
      cases el
      have hij : i = j := by simpa using hj
      subst hij
      exact defOk_of T r (hm r (List.mem_cons_self ..)) e1 e2 f1 fun pm cd doc vs hl => f2 r.name r.body r.scope pm cd doc vs (by rw [hl, List.length_map])
    · exact defsOk_go T rs ds (fun x hx => hm x (List.mem_cons_of_mem _ hx)) e3 f3 hb i ps b el
theorem defsOk_of {p q : Program} {loose : List Str} {mean : ExcName → Option Value} {mg mb : Str → Option Value} {h : Heap} (T : Top p loose mean mg mb h) {tab : Nat → Str} {defs : Defs} (e : recsOf p = recsOf q)
    (recs : (recsOf q).map (fun r => (r.name, r.body)) = defs.map (fun x => (tab x.1, x.2.2.toE tab))) (fits : (((recsOf q).zip defs).all fun x => recFits tab x.1 x.2.2.1 x.2.2.2) = true) (binds : BindsOk ((recsOf q).map (·.params)) (defs.map fun x => x.2.1.map tab)) : DefsOk tab h mg defs :=
  defsOk_go T (recsOf q) defs (fun r hr => e ▸ hr) recs fits binds

/-- the law's call -/
theorem law_call {prog : Program} {w : World} {p : Program} {loose : List Str} {mean : ExcName → Option Value} {mg mb : Str → Option Value} {s₁ : Shared} {K : Frag} {tab : Nat → Str} {defs : Defs} (T : Top p loose mean mg mb s₁.heap) (X : K.In s₁.heap)
    (hst : nsIn K cStatics sharingNotToldKey = some none) (hmiss : ∀ x ∈ (["sum", "len", "min", "max", "range", "enumerate", "list", "ValueError"] : List Str), nsIn K mainGlobals x = some none)
    (TT : TabOk tab) (D : DefsOk tab s₁.heap mg defs) {fa l : Addr} {vs : List Value} {ns : List Int} {i n : Nat} {ps : List Nat} {body : Ss} (hi : defs.lookup i = some (ps, body)) (hn : n ≤ 50)
    (hfa : mg (tab i) = some (.ref fa)) (hl : s₁.heap.IsList l vs.toArray) (hv : IntsAre vs ns) (ht : 0 < s₁.toks)
    (hG : evDef tab (Gfix tab defs n) ps body [.list (ns.map .raw)] = some (.bool true)) {Q E : Value → Shared → Prop}
    (hR : ∀ h' tk, (∀ b o, s₁.heap.get? b = some o → h'.get? b = some o) → Q (.bool true) { s₁ with heap := h', toks := tk }) :
    wpAny (model prog w) callerA (call (.ref fa) [.ref l]) Q E s₁ := by
  have B : BaseOk s₁.heap mg mb := by
    refine ⟨T.g, T.b, T.nolimit, ?_, T.builtins, fun x hx => ns_none_of X T.g (hmiss x hx)⟩
    obtain ⟨mc, h1, _⟩ := T.nodigits
    exact ⟨mc, h1, ns_none_of X h1 hst⟩
  have ok : (Ctxt.mk prog w tab s₁.heap mg mb (Gfix tab defs n) n).Ok := ⟨TT, B, gfix_ok TT B D n⟩
  obtain ⟨a, fd, o, h1, h2, h3, h4⟩ := def_call (Γ := Ctxt.mk prog w tab s₁.heap mg mb (Gfix tab defs n) n) ok (D i ps body hi) hG
  have e : a = fa := by
    have : some (Value.ref a) = some (.ref fa) := h1.symm.trans hfa
    cases this; rfl
  subst e
  have ao : AOk (n + 1) callerA := ⟨rfl, by show 1 + claimMargin + (n + 1) ≤ 900; have : claimMargin = 300 := rfl; omega, by show 4 + 10 * (n + 1) + 300 ≤ 9900; omega⟩
  have si : SI s₁.heap callerA s₁.heap := ⟨fun b o e => e, [], rfl, trivial⟩
  have rd : RdAll (fun _ => none) (fun _ => False) s₁.heap [.ref l] [.list (ns.map .raw)] := .one ⟨l, vs.toArray, rfl, fun q => q, hl, by simpa using rdAll_raw hv⟩
  refine wpAny_mono (h4 callerA s₁ (fun _ => none) (fun _ => False) [.ref l] E ao si (fun a q => q.elim) ⟨ht, fun t x q => by cases q⟩ rd).1 (fun v s' ⟨⟨h', tk, e', k⟩, f', _, _, rv⟩ => ?_) fun _ _ q => q
  subst e'
  cases rv
  exact hR h' tk (keep_caller k)

end Mine
end

section
namespace Mine
open PySem PySem.W PyProof.Rows

theorem keepFree_of {tab : Nat → Str} {sc : Scope} {i : Nat} {ρ : Vw} (h : sc.names.lookup (tab i) = some .free) : keepFree tab sc ρ i = ρ i := by
  unfold keepFree; rw [h]

/-! ways to write a datum -/
/-- a way to write things of a kind as data -/
structure Enc (α : Type) [DecidableEq α] where
  e : α → D
  eq : ∀ x y, PyData.eqv (toP (e x)) (toP (e y)) = decide (x = y)
  dep : Nat
  depth : ∀ x, (toP (e x)).depth ≤ dep
  kind : ∀ x y, isKind (e x) (e y) = true

theorem beq_dec {α : Type} [BEq α] [LawfulBEq α] [DecidableEq α] (x y : α) : (x == y) = decide (x = y) := by
  by_cases h : x = y
  · subst h; simp
  · rw [decide_eq_false h]; exact beq_eq_false_iff_ne.mpr h

noncomputable def encI : Enc Int := ⟨.int, fun x y => by simp [toP, PyData.eqv, beq_dec], 0, fun x => Nat.le_refl _, fun x y => rfl⟩
noncomputable def encB : Enc Bool := ⟨.bool, fun x y => by simp [toP, PyData.eqv, beq_dec], 0, fun x => Nat.le_refl _, fun x y => rfl⟩
noncomputable def encS : Enc Str := ⟨.str, fun x y => by simp [toP, PyData.eqv, beq_dec], 0, fun x => Nat.le_refl _, fun x y => rfl⟩
/-- a text by its letters' numbers -/
noncomputable def encT : Enc (List Nat) := ⟨fun x => .str ⟨x.toArray⟩, fun x y => by simp [toP, PyData.eqv, beq_dec], 0, fun x => Nat.le_refl _, fun x y => rfl⟩
noncomputable def encN : Enc Nat := ⟨fun n => .int n, fun x y => by simp only [toP, PyData.eqv, beq_dec]; by_cases h : x = y <;> simp [h]; omega, 0, fun x => Nat.le_refl _, fun x y => rfl⟩

theorem eqvAll_enc {α : Type} [DecidableEq α] (E : Enc α) : ∀ xs ys : List α, PyData.eqvAll (toPs (xs.map E.e)) (toPs (ys.map E.e)) = decide (xs = ys)
  | [], [] => by simp [toPs, PyData.eqvAll]
  | [], y :: ys => by simp [toPs, PyData.eqvAll]
  | x :: xs, [] => by simp [toPs, PyData.eqvAll]
  | x :: xs, y :: ys => by
    simp only [List.map_cons, toPs, PyData.eqvAll, eqvAll_enc E xs ys, E.eq, List.cons.injEq]
    by_cases h : x = y <;> simp [h]
theorem depthAll_enc {α : Type} [DecidableEq α] (E : Enc α) : ∀ xs : List α, PyData.depthAll (toPs (xs.map E.e)) ≤ E.dep
  | [] => by simp [toPs, PyData.depthAll]
  | x :: xs => by
    simp only [List.map_cons, toPs, PyData.depthAll]
    exact Nat.max_le.mpr ⟨E.depth x, depthAll_enc E xs⟩
/-- lists of such -/
noncomputable def encL {α : Type} [DecidableEq α] (E : Enc α) : Enc (List α) :=
  ⟨fun xs => .list (xs.map E.e), fun xs ys => by simp only [toP, PyData.eqv, eqvAll_enc E], E.dep + 1, fun xs => by simp only [toP, PyData.depth]; exact Nat.succ_le_succ (depthAll_enc E xs), fun _ _ => rfl⟩

section
variable {α : Type} [DecidableEq α] (E : Enc α)
theorem okD_enc (h : E.dep ≤ 49) (x : α) : okD (E.e x) = true := by unfold okD; exact decide_eq_true (Nat.le_trans (E.depth x) (by omega))
theorem okDL_enc (h : E.dep ≤ 49) (xs : List α) : okD (.list (xs.map E.e)) = true := by
  unfold okD; refine decide_eq_true ?_
  simp only [toP, PyData.depth]
  exact Nat.succ_le_succ (Nat.le_trans (depthAll_enc E xs) h)
theorem eqD_enc (h : E.dep ≤ 49) (x y : α) : eqD (E.e x) (E.e y) = some (decide (x = y)) := by
  unfold eqD; rw [okD_enc E h, okD_enc E h, E.eq]; rfl
theorem inD_enc (h : E.dep ≤ 49) (x : α) (xs : List α) : inD (E.e x) (xs.map E.e) = some (decide (x ∈ xs)) := by
  unfold inD; rw [okD_enc E h, okDL_enc E h]
  simp only [Bool.and_self, if_true, List.any_map]
  congr 1
  induction xs with
  | nil => simp
  | cons y r ih =>
    simp only [List.any_cons, Function.comp, E.eq] at ih ⊢
    rw [ih]
    by_cases q : x = y
    · subst q; simp
    · have q' : ¬ y = x := fun e => q e.symm
      simp [q, q']
theorem eqDL_enc (h : E.dep ≤ 48) (xs ys : List α) : eqD (.list (xs.map E.e)) (.list (ys.map E.e)) = some (decide (xs = ys)) := eqD_enc (encL E) (by show E.dep + 1 ≤ 49; omega) xs ys
end

/-! runs, by what holds behind -/
section
variable (tab : Nat → Str) (G : Or)
/-- the run of statements ends so -/
noncomputable def Ex (b : Ss) (σ : St) (Q : St → Fl → Prop) : Prop := ∃ σ' fl, exs tab G b σ = some (σ', fl) ∧ Q σ' fl
noncomputable def Ex1 (s : S) (σ : St) (Q : St → Fl → Prop) : Prop := ∃ σ' fl, exS tab G s σ = some (σ', fl) ∧ Q σ' fl
variable {tab G}
theorem Ex.nil {σ : St} {Q : St → Fl → Prop} (h : Q σ .next) : Ex tab G .nil σ Q := ⟨σ, .next, rfl, h⟩
theorem Ex.cons {s : S} {r : Ss} {σ : St} {Q : St → Fl → Prop} (h : Ex1 tab G s σ fun σ' fl => match fl with | .next => Ex tab G r σ' Q | fl => Q σ' fl) : Ex tab G (.cons s r) σ Q := by
  obtain ⟨σ', fl, h1, h2⟩ := h
  cases fl with
  | next =>
    obtain ⟨σ'', fl', h3, h4⟩ := h2
    exact ⟨σ'', fl', by simp only [exs_e1, exs_e2, h1, h3], h4⟩
  | brk => exact ⟨σ', .brk, by simp only [exs_e1, exs_e2, h1], h2⟩
  | ret v => exact ⟨σ', .ret v, by simp only [exs_e1, exs_e2, h1], h2⟩
theorem Ex.mono {b : Ss} {σ : St} {Q R : St → Fl → Prop} (h : Ex tab G b σ Q) (q : ∀ σ' fl, Q σ' fl → R σ' fl) : Ex tab G b σ R := let ⟨a, c, d, e⟩ := h; ⟨a, c, d, q _ _ e⟩
theorem Ex1.next {s : S} {σ σ' : St} {Q : St → Fl → Prop} (h : exS tab G s σ = some (σ', .next)) (q : Q σ' .next) : Ex1 tab G s σ Q := ⟨σ', .next, h, q⟩
/-- a step that goes on, then the rest -/
theorem Ex.step {s : S} {r : Ss} {σ σ' : St} {Q : St → Fl → Prop} (h : exS tab G s σ = some (σ', .next)) (q : Ex tab G r σ' Q) : Ex tab G (.cons s r) σ Q := Ex.cons ⟨σ', .next, h, q⟩
theorem Ex.ret {e : C} {p : Pos} {r : Ss} {σ : St} {d : D} {Q : St → Fl → Prop} (h : ev tab G e σ.full = some d) (q : Q σ (.ret d)) : Ex tab G (.cons (.ret e p) r) σ Q :=
  Ex.cons ⟨σ, .ret d, by simp only [exS_e1, exS_e2, exS_e3, exS_e4, exS_e5, exS_e6, exS_e7, exS_e8, exS_e9, exS_e10, exS_e11, exS_e12, exS_e13, h, Option.map_some], q⟩
theorem Ex.ite {t : C} {a b : Ss} {p : Pos} {r : Ss} {σ : St} {Q : St → Fl → Prop} (c : Bool) (h : ev tab G t σ.full = some (.bool c))
    (h1 : c = true → Ex tab G a σ fun σ' fl => match fl with | .next => Ex tab G r σ' Q | fl => Q σ' fl) (h2 : c = false → Ex tab G b σ fun σ' fl => match fl with | .next => Ex tab G r σ' Q | fl => Q σ' fl) : Ex tab G (.cons (.ite t a b p) r) σ Q := by
  refine Ex.cons ?_
  cases c with
  | true => obtain ⟨σ', fl, e, q⟩ := h1 rfl; exact ⟨σ', fl, by simp only [exS_e1, exS_e2, exS_e3, exS_e4, exS_e5, exS_e6, exS_e7, exS_e8, exS_e9, exS_e10, exS_e11, exS_e12, exS_e13, h, boolOf, Option.bind_some, if_true, e], q⟩
  | false => obtain ⟨σ', fl, e, q⟩ := h2 rfl; exact ⟨σ', fl, by simp only [exS_e1, exS_e2, exS_e3, exS_e4, exS_e5, exS_e6, exS_e7, exS_e8, exS_e9, exS_e10, exS_e11, exS_e12, exS_e13, h, boolOf, Option.bind_some, Bool.false_eq_true, if_false, e], q⟩
theorem Ex.iteF {t : C} {a : Ss} {p : Pos} {r : Ss} {σ : St} {Q : St → Fl → Prop} (h : ev tab G t σ.full = some (.bool false)) (q : Ex tab G r σ Q) : Ex tab G (.cons (.ite t a .nil p) r) σ Q :=
  Ex.ite false h (fun e => by cases e) fun _ => ⟨σ, .next, rfl, q⟩
theorem Ex.assign {x : Nat} {e : C} {px p : Pos} {r : Ss} {σ : St} {d : D} {Q : St → Fl → Prop} (h : ev tab G e σ.frozen = some d) (q : Ex tab G r (upd σ x (false, d)) Q) : Ex tab G (.cons (.assign x e px p) r) σ Q :=
  Ex.step (by simp only [exS_e1, exS_e2, exS_e3, exS_e4, exS_e5, exS_e6, exS_e7, exS_e8, exS_e9, exS_e10, exS_e11, exS_e12, exS_e13, evK, h, Option.map_some]) q
theorem Ex.own {x : Nat} {es : Cs} {pe px p : Pos} {r : Ss} {σ : St} {ds : List D} {Q : St → Fl → Prop} (h : evs tab G es σ.frozen = some ds) (hl : ds.length ≤ lim) (q : Ex tab G r (upd σ x (true, .list ds)) Q) : Ex tab G (.cons (.own x es pe px p) r) σ Q :=
  Ex.step (by simp only [exS_e1, exS_e2, exS_e3, exS_e4, exS_e5, exS_e6, exS_e7, exS_e8, exS_e9, exS_e10, exS_e11, exS_e12, exS_e13, h, Option.bind_some, if_pos hl]) q
theorem Ex.append {x : Nat} {e : C} {px pa p : Pos} {r : Ss} {σ : St} {d : D} {ds : List D} {Q : St → Fl → Prop} (h : ev tab G e σ.frozen = some d) (hσ : σ x = some (true, .list ds)) (hl : ds.length ≤ lim) (q : Ex tab G r (upd σ x (true, .list (ds ++ [d]))) Q) : Ex tab G (.cons (.append x e px pa p) r) σ Q :=
  Ex.step (by simp only [exS_e1, exS_e2, exS_e3, exS_e4, exS_e5, exS_e6, exS_e7, exS_e8, exS_e9, exS_e10, exS_e11, exS_e12, exS_e13, evK, h, Option.bind_some, hσ, if_pos hl]) q
theorem loop_inv {α : Type} {e : α → D} {step : D → St → Option (St × Fl)} {I : List α → St → Prop} (xs : List α) : ∀ (post pre : List α) (σ : St), xs = pre ++ post → I pre σ →
    (∀ pre x post σ, xs = pre ++ x :: post → I pre σ → ∃ σ', step (e x) σ = some (σ', .next) ∧ I (pre ++ [x]) σ') → ∃ σ', loopM step (post.map e) σ = some (σ', .next) ∧ I xs σ'
  | [], pre, σ, h, hi, hs => ⟨σ, rfl, by rw [List.append_nil] at h; subst h; exact hi⟩
  | x :: post, pre, σ, h, hi, hs => by
    obtain ⟨σ₁, h1, h2⟩ := hs pre x post σ h hi
    obtain ⟨σ₂, h3, h4⟩ := loop_inv xs post (pre ++ [x]) σ₁ (by rw [h]; simp) h2 hs
    exact ⟨σ₂, by simp only [List.map_cons, loopM, h1, h3], h4⟩
/-- a loop that goes on at every turn, by what holds when some have been taken -/
theorem Ex.loop {α : Type} {e : α → D} {t : Tgt} {it : It} {body : Ss} {p : Pos} {r : Ss} {σ σ₁ : St} {Q : St → Fl → Prop} (I : List α → St → Prop) (xs : List α) (hit : iterS tab G it σ = some (xs.map e, σ₁)) (h0 : I [] σ₁)
    (hs : ∀ pre x post σ, xs = pre ++ x :: post → I pre σ → ∃ σ', bindS t (e x) σ = some σ' ∧ Ex tab G body σ' fun σ'' fl => fl = .next ∧ I (pre ++ [x]) σ'')
    (hq : ∀ σ', I xs σ' → Ex tab G r σ' Q) : Ex tab G (.cons (.for t it body p) r) σ Q := by
  obtain ⟨σ', h1, h2⟩ := loop_inv (e := e) (step := fun d σ' => (bindS t d σ').bind fun σ'' => exs tab G body σ'') (I := I) xs xs [] σ₁ rfl h0 fun pre x post σ h hi => by
    obtain ⟨σ', h1, σ'', fl, h2, h3, h4⟩ := hs pre x post σ h hi
    subst h3
    exact ⟨σ'', by simp only [h1, Option.bind_some, h2], h4⟩
  exact Ex.cons ⟨σ', .next, by simp only [exS_e1, exS_e2, exS_e3, exS_e4, exS_e5, exS_e6, exS_e7, exS_e8, exS_e9, exS_e10, exS_e11, exS_e12, exS_e13, hit, Option.bind_some, h1], hq σ' h2⟩
/-- the same, where what is gone over turns no more -/
theorem Ex.loopE {α : Type} {e : α → D} {t : Tgt} {it : It} {body : Ss} {p : Pos} {r : Ss} {σ : St} {Q : St → Fl → Prop} (I : List α → St → Prop) (xs : List α) (hit : evIt tab G it σ.frozen = some (xs.map e)) (h0 : I [] σ)
    (hs : ∀ pre x post σ, xs = pre ++ x :: post → I pre σ → ∃ σ', bindS t (e x) σ = some σ' ∧ Ex tab G body σ' fun σ'' fl => fl = .next ∧ I (pre ++ [x]) σ'')
    (hq : ∀ σ', I xs σ' → Ex tab G r σ' Q) : Ex tab G (.cons (.for t it body p) r) σ Q := Ex.loop I xs (by unfold iterS; rw [hit]) h0 hs hq
theorem evDef_of {ps : List Nat} {body : Ss} {ds : List D} {d : D} (hl : ps.length = ds.length) (h : Ex tab G body (argSt ps ds) fun _ fl => fl = .ret d) : evDef tab G ps body ds = some d := by
  obtain ⟨σ', fl, h1, h2⟩ := h
  subst h2
  unfold evDef
  rw [if_pos hl, h1]
end

/-! comprehensions -/
theorem collectM_map {α β : Type} {e : α → D} {e' : β → D} {F : D → Option (List D)} {g : α → List β} : ∀ {xs : List α}, (∀ x ∈ xs, F (e x) = some ((g x).map e')) → collectM F (xs.map e) = some ((xs.flatMap g).map e')
  | [], _ => rfl
  | x :: xs, h => by
    simp only [List.map_cons, collectM, h x (List.mem_cons_self ..), collectM_map fun y hy => h y (List.mem_cons_of_mem _ hy), List.flatMap_cons, List.map_append]
theorem collectM_if {α β : Type} {e : α → D} {e' : β → D} {F : D → Option (List D)} {c : α → Bool} {g : α → β} : ∀ {xs : List α}, (∀ x ∈ xs, F (e x) = some (if c x then [e' (g x)] else [])) → collectM F (xs.map e) = some (((xs.filter c).map g).map e')
  | [], _ => rfl
  | x :: xs, h => by
    have ih := collectM_if fun y hy => h y (List.mem_cons_of_mem _ hy)
    cases q : c x with
    | true => simp [collectM, h x (List.mem_cons_self ..), ih, q]
    | false => simp [collectM, h x (List.mem_cons_self ..), ih, q]
theorem lim_small {n : Nat} (h : n ≤ 100) : n ≤ lim := Nat.le_trans h (by decide)
theorem mkList_small {ds : List D} (h : ds.length ≤ 100) : mkList ds = some (.list ds) := if_pos (lim_small h)
theorem itemsD_small {ds : List D} (h : ds.length ≤ 100) : itemsD (.list ds) = some ds := if_pos (lim_small h)
theorem rangeL_eq : ∀ (n : Nat) (a : Int), rangeL a n = (List.range n).map fun k : Nat => D.int (a + k)
  | 0, _ => rfl
  | n + 1, a => by
    rw [rangeL, rangeL_eq n, List.range_succ_eq_map]
    simp only [List.map_cons, List.map_map, Int.ofNat_zero, Int.add_zero, List.cons.injEq]
    refine ⟨by simp, List.map_congr_left fun x _ => ?_⟩
    simp only [Function.comp, Nat.succ_eq_add_one, Int.natCast_add, D.int.injEq]
    omega
theorem range1_nat {n : Nat} (h : n ≤ 100) : range1D (.int n) = some ((List.range n).map encN.e) := by
  have h2 : (-lim : Int) ≤ 0 ∧ (0 : Int) ≤ lim ∧ (-lim : Int) ≤ n ∧ (n : Int) ≤ lim := by
    have : (lim : Int) = 1000000 := rfl
    omega
  simp only [range1D, D.num, Option.bind_some, range2I, if_pos h2, rangeL_eq, Int.sub_zero, Int.toNat_natCast]
  congr 1
  exact List.map_congr_left fun x _ => by simp [encN]
section
variable {tab : Nat → Str} {G : Or}
theorem mkList_map {α : Type} {e : α → D} {xs : List α} (h : xs.length ≤ lim) : mkList (xs.map e) = some (.list (xs.map e)) := if_pos (by simpa using h)
theorem ev_bin {o : BO} {a b : C} {p : Pos} {ρ : Vw} {x y z : D} (ha : ev tab G a ρ = some x) (hb : ev tab G b ρ = some y) (h : binD o x y = some z) : ev tab G (.bin o a b p) ρ = some z := by simp only [ev_e1, ev_e2, ev_e3, ev_e4, ev_e5, ev_e6, ev_e7, ev_e8, ev_e9, ev_e10, ev_e11, ev_e12, ev_e13, ev_e14, ev_e15, ev_e16, ev_e17, ev_e18, ev_e19, ev_e20, ev_e21, ev_e22, ev_e23, ev_e24, ev_e25, ev_e26, ev_e27, ev_e28, ha, hb, Option.bind_some, h]
theorem ev_cmp {o : CO} {a b : C} {p : Pos} {ρ : Vw} {x y z : D} (ha : ev tab G a ρ = some x) (hb : ev tab G b ρ = some y) (h : cmpD o x y = some z) : ev tab G (.cmp o a b p) ρ = some z := by simp only [ev_e1, ev_e2, ev_e3, ev_e4, ev_e5, ev_e6, ev_e7, ev_e8, ev_e9, ev_e10, ev_e11, ev_e12, ev_e13, ev_e14, ev_e15, ev_e16, ev_e17, ev_e18, ev_e19, ev_e20, ev_e21, ev_e22, ev_e23, ev_e24, ev_e25, ev_e26, ev_e27, ev_e28, ha, hb, Option.bind_some, h]
theorem ev_len {a : C} {pf p : Pos} {ρ : Vw} {ds : List D} (ha : ev tab G a ρ = some (.list ds)) (h : ds.length ≤ lim) : ev tab G (.len a pf p) ρ = some (.int ds.length) := by simp only [ev_e1, ev_e2, ev_e3, ev_e4, ev_e5, ev_e6, ev_e7, ev_e8, ev_e9, ev_e10, ev_e11, ev_e12, ev_e13, ev_e14, ev_e15, ev_e16, ev_e17, ev_e18, ev_e19, ev_e20, ev_e21, ev_e22, ev_e23, ev_e24, ev_e25, ev_e26, ev_e27, ev_e28, ha, Option.bind_some, lenD, if_pos h]
theorem ev_call1 {f : Nat} {a : C} {pf p : Pos} {ρ : Vw} {x z : D} (ha : ev tab G a ρ = some x) (h : G f [x] = some z) : ev tab G (.call f (.cons a .nil) pf p) ρ = some z := by simp only [ev_e1, ev_e2, ev_e3, ev_e4, ev_e5, ev_e6, ev_e7, ev_e8, ev_e9, ev_e10, ev_e11, ev_e12, ev_e13, ev_e14, ev_e15, ev_e16, ev_e17, ev_e18, ev_e19, ev_e20, ev_e21, ev_e22, ev_e23, ev_e24, ev_e25, ev_e26, ev_e27, ev_e28, evs_e1, evs_e2, ha, Option.bind_some, Option.map_some, h]
theorem ev_call2 {f : Nat} {a b : C} {pf p : Pos} {ρ : Vw} {x y z : D} (ha : ev tab G a ρ = some x) (hb : ev tab G b ρ = some y) (h : G f [x, y] = some z) : ev tab G (.call f (.cons a (.cons b .nil)) pf p) ρ = some z := by simp only [ev_e1, ev_e2, ev_e3, ev_e4, ev_e5, ev_e6, ev_e7, ev_e8, ev_e9, ev_e10, ev_e11, ev_e12, ev_e13, ev_e14, ev_e15, ev_e16, ev_e17, ev_e18, ev_e19, ev_e20, ev_e21, ev_e22, ev_e23, ev_e24, ev_e25, ev_e26, ev_e27, ev_e28, evs_e1, evs_e2, ha, hb, Option.bind_some, Option.map_some, h]
theorem ev_call3 {f : Nat} {a b c : C} {pf p : Pos} {ρ : Vw} {x y w z : D} (ha : ev tab G a ρ = some x) (hb : ev tab G b ρ = some y) (hc : ev tab G c ρ = some w) (h : G f [x, y, w] = some z) : ev tab G (.call f (.cons a (.cons b (.cons c .nil))) pf p) ρ = some z := by simp only [ev_e1, ev_e2, ev_e3, ev_e4, ev_e5, ev_e6, ev_e7, ev_e8, ev_e9, ev_e10, ev_e11, ev_e12, ev_e13, ev_e14, ev_e15, ev_e16, ev_e17, ev_e18, ev_e19, ev_e20, ev_e21, ev_e22, ev_e23, ev_e24, ev_e25, ev_e26, ev_e27, ev_e28, evs_e1, evs_e2, ha, hb, hc, Option.bind_some, Option.map_some, h]
theorem ev_item {a i : C} {p : Pos} {ρ : Vw} {x y z : D} (ha : ev tab G a ρ = some x) (hb : ev tab G i ρ = some y) (h : itemD x y = some z) : ev tab G (.item a i p) ρ = some z := by simp only [ev_e1, ev_e2, ev_e3, ev_e4, ev_e5, ev_e6, ev_e7, ev_e8, ev_e9, ev_e10, ev_e11, ev_e12, ev_e13, ev_e14, ev_e15, ev_e16, ev_e17, ev_e18, ev_e19, ev_e20, ev_e21, ev_e22, ev_e23, ev_e24, ev_e25, ev_e26, ev_e27, ev_e28, ha, hb, Option.bind_some, h]
theorem ev_and2 {a b : C} {p : Pos} {ρ : Vw} {x y : Bool} (ha : ev tab G a ρ = some (.bool x)) (hb : x = true → ev tab G b ρ = some (.bool y)) : ev tab G (.and2 a b p) ρ = some (.bool (x && y)) := by
  cases x with
  | true => simp [ev_e1, ev_e2, ev_e3, ev_e4, ev_e5, ev_e6, ev_e7, ev_e8, ev_e9, ev_e10, ev_e11, ev_e12, ev_e13, ev_e14, ev_e15, ev_e16, ev_e17, ev_e18, ev_e19, ev_e20, ev_e21, ev_e22, ev_e23, ev_e24, ev_e25, ev_e26, ev_e27, ev_e28, ha, boolOf, hb rfl]
  | false => simp [ev_e1, ev_e2, ev_e3, ev_e4, ev_e5, ev_e6, ev_e7, ev_e8, ev_e9, ev_e10, ev_e11, ev_e12, ev_e13, ev_e14, ev_e15, ev_e16, ev_e17, ev_e18, ev_e19, ev_e20, ev_e21, ev_e22, ev_e23, ev_e24, ev_e25, ev_e26, ev_e27, ev_e28, ha, boolOf]
theorem ev_or2 {a b : C} {p : Pos} {ρ : Vw} {x y : Bool} (ha : ev tab G a ρ = some (.bool x)) (hb : x = false → ev tab G b ρ = some (.bool y)) : ev tab G (.or2 a b p) ρ = some (.bool (x || y)) := by
  cases x with
  | true => simp [ev_e1, ev_e2, ev_e3, ev_e4, ev_e5, ev_e6, ev_e7, ev_e8, ev_e9, ev_e10, ev_e11, ev_e12, ev_e13, ev_e14, ev_e15, ev_e16, ev_e17, ev_e18, ev_e19, ev_e20, ev_e21, ev_e22, ev_e23, ev_e24, ev_e25, ev_e26, ev_e27, ev_e28, ha, boolOf]
  | false => simp [ev_e1, ev_e2, ev_e3, ev_e4, ev_e5, ev_e6, ev_e7, ev_e8, ev_e9, ev_e10, ev_e11, ev_e12, ev_e13, ev_e14, ev_e15, ev_e16, ev_e17, ev_e18, ev_e19, ev_e20, ev_e21, ev_e22, ev_e23, ev_e24, ev_e25, ev_e26, ev_e27, ev_e28, ha, boolOf, hb rfl]
theorem evIfs_one {a : C} {ρ : Vw} {x : Bool} (ha : ev tab G a ρ = some (.bool x)) : evIfs tab G (.cons a .nil) ρ = some x := by
  cases x <;> simp [evIfs_e1, evIfs_e2, ha, boolOf]
theorem evIt_of {a : C} {ρ : Vw} {ds : List D} (ha : ev tab G a ρ = some (.list ds)) (h : ds.length ≤ lim) : evIt tab G (.of a) ρ = some ds := by simp only [evIt_e1, evIt_e2, evIt_e3, evIt_e4, ha, Option.bind_some, itemsD, if_pos h]
theorem evIt_range {a : C} {pf p : Pos} {ρ : Vw} {n : Nat} (ha : ev tab G a ρ = some (.int n)) (h : n ≤ 100) : evIt tab G (.range1 a pf p) ρ = some ((List.range n).map encN.e) := by simp only [evIt_e1, evIt_e2, evIt_e3, evIt_e4, ha, Option.bind_some]; exact range1_nat h
theorem itemD_get {ds : List D} {k : Nat} {d : D} (h : ds[k]? = some d) (hl : ds.length ≤ lim) : itemD (.list ds) (.int k) = some d := by
  simp only [itemD, D.num, if_pos (Int.natCast_nonneg k), if_pos hl, Int.toNat_natCast, h]
theorem cmp_notin {α : Type} [DecidableEq α] (E : Enc α) (h : E.dep ≤ 49) (x : α) (xs : List α) : cmpD .notin (E.e x) (.list (xs.map E.e)) = some (.bool (!decide (x ∈ xs))) := by
  have := inD_enc E h x xs
  simp only [cmpD, this, Option.map_some]
theorem cmp_eq {α : Type} [DecidableEq α] (E : Enc α) (h : E.dep ≤ 49) (x y : α) : cmpD .eq (E.e x) (E.e y) = some (.bool (decide (x = y))) := by simp only [cmpD, eqD_enc E h, Option.map_some]
theorem cmp_ne {α : Type} [DecidableEq α] (E : Enc α) (h : E.dep ≤ 49) (x y : α) : cmpD .ne (E.e x) (E.e y) = some (.bool (!decide (x = y))) := by simp only [cmpD, eqD_enc E h, Option.map_some]
theorem add_list (a b : List D) (h : a.length + b.length ≤ lim) : binD .add (.list a) (.list b) = some (.list (a ++ b)) := by
  simp only [binD, addD, mkList, List.length_append, if_pos h]
theorem frozen_of {σ : St} {i : Nat} {d : D} (h : σ i = some (false, d)) : St.frozen σ i = some d := by simp only [St.frozen, h]
theorem full_of {σ : St} {i : Nat} {b : Bool} {d : D} (h : σ i = some (b, d)) : St.full σ i = some d := by simp only [St.full, h, Option.map_some]
/-- a comprehension of one clause -/
theorem ev_comp {α β : Type} {e : α → D} {e' : β → D} {elt : C} {t : Tgt} {it : It} {ifs : Cs} {sc : Scope} {p : Pos} {ρ : Vw} (c : α → Bool) (g : α → β) {xs : List α} (hit : evIt tab G it ρ = some (xs.map e)) (hl : xs.length ≤ lim)
    (h : ∀ x ∈ xs, ∃ ρ', bindT t (e x) (keepFree tab sc ρ) = some ρ' ∧ evIfs tab G ifs ρ' = some (c x) ∧ (c x = true → ev tab G elt ρ' = some (e' (g x)))) :
    ev tab G (.comp elt (.gen t it ifs .done) sc p) ρ = some (.list (((xs.filter c).map g).map e')) := by
  simp only [ev_e1, ev_e2, ev_e3, ev_e4, ev_e5, ev_e6, ev_e7, ev_e8, ev_e9, ev_e10, ev_e11, ev_e12, ev_e13, ev_e14, ev_e15, ev_e16, ev_e17, ev_e18, ev_e19, ev_e20, ev_e21, ev_e22, ev_e23, ev_e24, ev_e25, ev_e26, ev_e27, ev_e28, hit, Option.bind_some]
  rw [collectM_if (e' := e') (c := c) (g := g)]
  · exact mkList_map (by rw [List.length_map]; exact Nat.le_trans (List.length_filter_le ..) hl)
  · intro x hx
    obtain ⟨ρ', h1, h2, h3⟩ := h x hx
    simp only [h1, h2, Option.bind_some, evGs_e1, evGs_e2]
    cases q : c x with
    | true => simp [h3 q]
    | false => simp
theorem ev_comp_all {α β : Type} {e : α → D} {e' : β → D} {elt : C} {t : Tgt} {it : It} {sc : Scope} {p : Pos} {ρ : Vw} (g : α → β) {xs : List α} (hit : evIt tab G it ρ = some (xs.map e)) (hl : xs.length ≤ lim)
    (h : ∀ x ∈ xs, ∃ ρ', bindT t (e x) (keepFree tab sc ρ) = some ρ' ∧ ev tab G elt ρ' = some (e' (g x))) :
    ev tab G (.comp elt (.gen t it .nil .done) sc p) ρ = some (.list ((xs.map g).map e')) := by
  have := ev_comp (e' := e') (elt := elt) (ifs := .nil) (p := p) (fun _ => true) g hit hl fun x hx => let ⟨ρ', h1, h2⟩ := h x hx; ⟨ρ', h1, rfl, fun _ => h2⟩
  rw [this, List.filter_eq_self.mpr fun _ _ => rfl]
/-- two clauses, the outer one with a test, the inner one with one -/
theorem ev_comp2 {α β γ : Type} {e : α → D} {e₁ : β → D} {e' : γ → D} {elt : C} {t t₁ : Tgt} {it it₁ : It} {ifs ifs₁ : Cs} {sc : Scope} {p : Pos} {ρ : Vw} (c : α → Bool) (ys : α → List β) (c₁ : α → β → Bool) (g : α → β → γ) {xs : List α} (hit : evIt tab G it ρ = some (xs.map e))
    (hl : ((xs.filter c).flatMap fun x => ((ys x).filter (c₁ x)).map (g x)).length ≤ lim)
    (h : ∀ x ∈ xs, ∃ ρ', bindT t (e x) (keepFree tab sc ρ) = some ρ' ∧ evIfs tab G ifs ρ' = some (c x) ∧ (c x = true → evIt tab G it₁ ρ' = some ((ys x).map e₁) ∧ ∀ y ∈ ys x, ∃ ρ'', bindT t₁ (e₁ y) ρ' = some ρ'' ∧ evIfs tab G ifs₁ ρ'' = some (c₁ x y) ∧ (c₁ x y = true → ev tab G elt ρ'' = some (e' (g x y))))) :
    ev tab G (.comp elt (.gen t it ifs (.gen t₁ it₁ ifs₁ .done)) sc p) ρ = some (.list (((xs.filter c).flatMap fun x => ((ys x).filter (c₁ x)).map (g x)).map e')) := by
  simp only [ev_e1, ev_e2, ev_e3, ev_e4, ev_e5, ev_e6, ev_e7, ev_e8, ev_e9, ev_e10, ev_e11, ev_e12, ev_e13, ev_e14, ev_e15, ev_e16, ev_e17, ev_e18, ev_e19, ev_e20, ev_e21, ev_e22, ev_e23, ev_e24, ev_e25, ev_e26, ev_e27, ev_e28, hit, Option.bind_some]
  rw [collectM_map (e' := e') (g := fun x => if c x then ((ys x).filter (c₁ x)).map (g x) else [])]
  · have : (xs.flatMap fun x => if c x then ((ys x).filter (c₁ x)).map (g x) else []) = (xs.filter c).flatMap fun x => ((ys x).filter (c₁ x)).map (g x) := by
      clear hit h hl
      induction xs with
      | nil => rfl
      | cons x r ih =>
        rw [List.flatMap_cons, ih]
        cases q : c x <;> simp [q]
    rw [this]
    exact mkList_map hl
  · intro x hx
    obtain ⟨ρ', h1, h2, h3⟩ := h x hx
    simp only [h1, h2, Option.bind_some]
    cases q : c x with
    | false => simp
    | true =>
      obtain ⟨h4, h5⟩ := h3 q
      simp only [if_true, evGs_e1, evGs_e2, h4, Option.bind_some]
      refine collectM_if fun y hy => ?_
      obtain ⟨ρ'', h6, h7, h8⟩ := h5 y hy
      simp only [h6, h7, Option.bind_some, evGs_e1, evGs_e2]
      cases z : c₁ x y with
      | true => simp [h8 z]
      | false => simp
end
theorem itemsD_list {ds : List D} (h : ds.length ≤ lim) : itemsD (.list ds) = some ds := if_pos h

/-! the kit's lists of like things -/
section
variable {α : Type} [DecidableEq α]
noncomputable def addNew (acc : List α) (x : α) : List α := if x ∈ acc then acc else acc ++ [x]
noncomputable def dedup (xs : List α) : List α := xs.foldl addNew []
theorem mem_addNew {acc : List α} {x y : α} : y ∈ addNew acc x ↔ y ∈ acc ∨ y = x := by
  unfold addNew
  split
  · rename_i h
    exact ⟨.inl, fun q => q.elim id fun e => e ▸ h⟩
  · simp
theorem mem_foldNew {y : α} : ∀ (xs acc : List α), y ∈ xs.foldl addNew acc ↔ y ∈ acc ∨ y ∈ xs
  | [], acc => by simp
  | x :: xs, acc => by rw [List.foldl_cons, mem_foldNew xs, mem_addNew, List.mem_cons, or_assoc]
theorem mem_dedup {xs : List α} {y : α} : y ∈ dedup xs ↔ y ∈ xs := by unfold dedup; rw [mem_foldNew]; simp
theorem nodup_addNew {acc : List α} {x : α} (h : acc.Nodup) : (addNew acc x).Nodup := by
  unfold addNew
  split
  · exact h
  · rename_i q
    rw [List.nodup_append]
    refine ⟨h, by simp, fun a ha b hb => ?_⟩
    rw [List.mem_singleton] at hb
    subst hb
    exact fun e => q (e ▸ ha)
theorem nodup_foldNew : ∀ (xs acc : List α), acc.Nodup → (xs.foldl addNew acc).Nodup
  | [], _, h => h
  | x :: xs, _, h => nodup_foldNew xs _ (nodup_addNew h)
theorem nodup_dedup (xs : List α) : (dedup xs).Nodup := nodup_foldNew xs [] List.nodup_nil
theorem length_foldNew : ∀ (xs acc : List α), (xs.foldl addNew acc).length ≤ acc.length + xs.length
  | [], _ => Nat.le_refl _
  | x :: xs, acc => by
    rw [List.foldl_cons]
    refine Nat.le_trans (length_foldNew xs _) ?_
    have : (addNew acc x).length ≤ acc.length + 1 := by unfold addNew; split <;> simp
    simp only [List.length_cons]; omega
theorem length_dedup (xs : List α) : (dedup xs).length ≤ xs.length := by have := length_foldNew xs []; unfold dedup; simpa using this
/-- both have the same things -/
noncomputable def same (xs ys : List α) : Bool := xs.all (· ∈ ys) && ys.all (· ∈ xs)
theorem same_iff {xs ys : List α} : same xs ys = true ↔ ∀ x, x ∈ xs ↔ x ∈ ys := by
  unfold same
  simp only [Bool.and_eq_true, List.all_eq_true, decide_eq_true_eq]
  exact ⟨fun ⟨a, b⟩ x => ⟨a x, b x⟩, fun h => ⟨fun x => (h x).1, fun x => (h x).2⟩⟩
/-- how often -/
noncomputable def cnt (xs : List α) (x : α) : Nat := (xs.filter fun y => decide (y = x)).length
end
end Mine
end

section
namespace Mine
open PySem PySem.W PyProof.Rows
theorem stride_map {α β : Type} (f : α → β) (c : Nat) : ∀ (k : Nat) (l : List α), strideL c k (l.map f) = (strideL c k l).map f
  | _, [] => by cases ‹Nat› <;> rfl
  | 0, x :: l => by simp only [List.map_cons, strideL, stride_map f c c l]
  | k + 1, x :: l => by simp only [List.map_cons, strideL, stride_map f c k l]
theorem intsOf_raw : ∀ ns : List Int, intsOf (ns.map .raw) = some ns
  | [] => rfl
  | n :: ns => by simp [intsOf, D.num, intsOf_raw ns]
/-- every c-th of the script from a on, below b: their sum -/
noncomputable def drawn (ns : List Int) (a b c : Nat) : Int := (strideL (c - 1) 0 ((ns.take b).drop a)).sum
theorem slice_sum (ns : List Int) (a b c : Nat) (hc : 0 < c) (hl : ns.length ≤ 63) : (sliceD (.list (ns.map .raw)) (.int a) (.int b) (.int c)).bind sumD = some (.raw (drawn ns a b c)) := by
  have e : ((ns.map D.raw).take b).drop a = ((ns.take b).drop a).map D.raw := by rw [← List.map_take, ← List.map_drop]
  have hl' : ns.length ≤ lim := lim_small (Nat.le_trans hl (by decide))
  have hc' : 0 ≤ (a : Int) ∧ 0 ≤ (b : Int) ∧ (0 : Int) < c := ⟨Int.natCast_nonneg a, Int.natCast_nonneg b, Int.ofNat_lt.mpr hc⟩
  have e2 : (c : Int).toNat - 1 = c - 1 := rfl
  simp only [sliceD, D.part, Option.bind_some, List.length_map, if_pos hl', sliceL, if_pos hc', Option.map_some, Int.toNat_natCast, e, e2, stride_map, sumD, intsOf_raw, drawn]
theorem get_map {α : Type} {e : α → D} {xs : List α} {d : α} {k : Nat} (hk : k < xs.length) : (xs.map e)[k]? = some (e (xs.getD k d)) := by
  rw [List.getElem?_map, List.getElem?_eq_getElem hk, List.getD_eq_getElem?_getD, List.getElem?_eq_getElem hk]; rfl
theorem getD_mem {α : Type} {xs : List α} {k : Nat} {d : α} (h : k < xs.length) : xs.getD k d ∈ xs := by
  rw [List.getD_eq_getElem?_getD, List.getElem?_eq_getElem h]; exact List.getElem_mem ..
theorem getD_map {α β : Type} (f : α → β) {xs : List α} {k : Nat} {d : α} {e : β} (h : k < xs.length) : (xs.map f).getD k e = f (xs.getD k d) := by
  rw [List.getD_eq_getElem?_getD, List.getD_eq_getElem?_getD, List.getElem?_map, List.getElem?_eq_getElem h]; rfl
theorem isnot_bool (a b : Bool) : cmpD .isnot (.bool a) (.bool b) = some (.bool (!(a == b))) := rfl
theorem is_bool (a b : Bool) : cmpD .is (.bool a) (.bool b) = some (.bool (a == b)) := rfl
theorem lt_nat (x y : Nat) : cmpD .lt (encN.e x) (encN.e y) = some (.bool (decide (x < y))) := by simp [cmpD, numsD, encN, D.num]
theorem add_nat (x y : Nat) : binD .add (encN.e x) (encN.e y) = some (encN.e (x + y)) := by simp [binD, addD, numsD, encN, D.num]
theorem eq_nil {α : Type} [DecidableEq α] (E : Enc α) (h : E.dep ≤ 48) (xs : List α) : cmpD .eq (.list (xs.map E.e)) (.list []) = some (.bool (decide (xs = []))) := by
  have := eqDL_enc E h xs []
  simp only [List.map_nil] at this
  simp only [cmpD, this, Option.map_some]
theorem ne_nil {α : Type} [DecidableEq α] (E : Enc α) (h : E.dep ≤ 48) (xs : List α) : cmpD .ne (.list (xs.map E.e)) (.list []) = some (.bool (!decide (xs = []))) := by
  have := eqDL_enc E h xs []
  simp only [List.map_nil] at this
  simp only [cmpD, this, Option.map_some]
theorem pre_lt {α : Type} {xs pre post : List α} {x : α} (h : xs = pre ++ x :: post) : pre.length < xs.length := by
  rw [h, List.length_append, List.length_cons]; exact Nat.lt_add_of_pos_right (Nat.succ_pos _)
theorem mem_mid {α : Type} {xs pre post : List α} {x : α} (h : xs = pre ++ x :: post) : x ∈ xs := by rw [h]; simp
section
variable {tab : Nat → Str} {G : Or}
theorem ev_var {i : Nat} {p : Pos} {ρ : Vw} {d : D} (h : ρ i = some d) : ev tab G (.var i p) ρ = some d := h
theorem evK_full {e : C} {σ : St} {d : D} (h0 : ev tab G e σ.frozen = none) (h : ev tab G e σ.full = some d) (hs : scalar d = true) : evK (ev tab G e) σ = some d := by
  simp only [evK, h0, h, hs, if_true]
theorem Ex.setitem {x : Nat} {i e : C} {px ps p : Pos} {r : Ss} {σ : St} {d : D} {ds : List D} {k : Nat} {Q : St → Fl → Prop} (he : evK (ev tab G e) σ = some d) (hσ : σ x = some (true, .list ds)) (hi : ev tab G i σ.frozen = some (encN.e k)) (hk : k < ds.length) (hl : ds.length ≤ lim)
    (q : Ex tab G r (upd σ x (true, .list (ds.set k d))) Q) : Ex tab G (.cons (.setitem x i e px ps p) r) σ Q := by
  refine Ex.step ?_ q
  have h1 : 0 ≤ (k : Int) ∧ (k : Int) < ds.length ∧ ds.length ≤ lim := ⟨Int.natCast_nonneg k, Int.ofNat_lt.mpr hk, hl⟩
  simp only [exS_e3, he, Option.bind_some, hσ, hi, encN, D.num, if_pos h1, Int.toNat_natCast]
theorem loop_brk {α : Type} {e : α → D} {step : D → St → Option (St × Fl)} {I : List α → St → Prop} {B : St → Prop} (xs : List α) : ∀ (post pre : List α) (σ : St), xs = pre ++ post → I pre σ →
    (∀ pre x post σ, xs = pre ++ x :: post → I pre σ → ∃ σ' fl, step (e x) σ = some (σ', fl) ∧ ((fl = .next ∧ I (pre ++ [x]) σ') ∨ (fl = .brk ∧ B σ'))) → ∃ σ', loopM step (post.map e) σ = some (σ', .next) ∧ (I xs σ' ∨ B σ')
  | [], pre, σ, h, hi, hs => ⟨σ, rfl, .inl (by rw [List.append_nil] at h; subst h; exact hi)⟩
  | x :: post, pre, σ, h, hi, hs => by
    obtain ⟨σ₁, fl, h1, h2⟩ := hs pre x post σ h hi
    rcases h2 with ⟨rfl, h2⟩ | ⟨rfl, h2⟩
    · obtain ⟨σ₂, h3, h4⟩ := loop_brk xs post (pre ++ [x]) σ₁ (by rw [h]; simp) h2 hs
      exact ⟨σ₂, by simp only [List.map_cons, loopM, h1, h3], h4⟩
    · exact ⟨σ₁, by simp only [List.map_cons, loopM, h1], .inr h2⟩
/-- a loop that may break off -/
theorem Ex.loopB {α : Type} {e : α → D} {t : Tgt} {it : It} {body : Ss} {p : Pos} {r : Ss} {σ : St} {Q : St → Fl → Prop} (I : List α → St → Prop) (B : St → Prop) (xs : List α) (hit : evIt tab G it σ.frozen = some (xs.map e)) (h0 : I [] σ)
    (hs : ∀ pre x post σ, xs = pre ++ x :: post → I pre σ → ∃ σ', bindS t (e x) σ = some σ' ∧ Ex tab G body σ' fun σ'' fl => (fl = .next ∧ I (pre ++ [x]) σ'') ∨ (fl = .brk ∧ B σ''))
    (hq : ∀ σ', I xs σ' ∨ B σ' → Ex tab G r σ' Q) : Ex tab G (.cons (.for t it body p) r) σ Q := by
  obtain ⟨σ', h1, h2⟩ := loop_brk (e := e) (step := fun d σ' => (bindS t d σ').bind fun σ'' => exs tab G body σ'') (I := I) (B := B) xs xs [] σ rfl h0 fun pre x post σ h hi => by
    obtain ⟨σ', h1, σ'', fl, h2, h3⟩ := hs pre x post σ h hi
    exact ⟨σ'', fl, by simp only [h1, Option.bind_some, h2], h3⟩
  exact Ex.cons ⟨σ', .next, by simp only [exS_e8, iterS, hit, Option.bind_some, h1], hq σ' h2⟩
theorem Ex.brk {p : Pos} {r : Ss} {σ : St} {Q : St → Fl → Prop} (q : Q σ .brk) : Ex tab G (.cons (.brk p) r) σ Q := Ex.cons ⟨σ, .brk, rfl, q⟩
theorem Ex.extend {x : Nat} {e : C} {px pa p : Pos} {r : Ss} {σ : St} {es ds : List D} {Q : St → Fl → Prop} (h : ev tab G e σ.frozen = some (.list es)) (hσ : σ x = some (true, .list ds)) (hl : ds.length + es.length ≤ lim) (q : Ex tab G r (upd σ x (true, .list (ds ++ es))) Q) : Ex tab G (.cons (.extend x e px pa p) r) σ Q :=
  Ex.step (by simp only [exS_e5, h, Option.bind_some, hσ, if_pos hl]) q
end
end Mine
end

section
namespace Mine
open PySem PySem.W PyProof.Rows

namespace L01
noncomputable def names : List Str := [Str.ofString "unhashable_params", Str.ofString "new_unhashable", Str.ofString "t", Str.ofString "_deduplicate_unhashable", Str.ofString "first_args", Str.ofString "second_args", Str.ofString "first_unhashable", Str.ofString "elem", Str.ofString "second_unhashable", Str.ofString "_compare_args_orderless", Str.ofString "a", Str.ofString "b", Str.ofString "contains", Str.ofString "count", Str.ofString "i", Str.ofString "countOf", Str.ofString "script", Str.ofString "law", Str.ofString "figures", Str.ofString "k", Str.ofString "start", Str.ofString "drawn", Str.ofString "_law_figures", Str.ofString "c", Str.ofString "_law_masks", Str.ofString "due", Str.ofString "lower", Str.ofString "q", Str.ofString "place", Str.ofString "j", Str.ofString "masks", Str.ofString "_law_due", Str.ofString "shares", Str.ofString "order", Str.ofString "orders", Str.ofString "p", Str.ofString "mask", Str.ofString "here", Str.ofString "_law_by_orders", Str.ofString "rows", Str.ofString "longer", Str.ofString "_law_lies_in", Str.ofString "least", Str.ofString "kept", Str.ofString "_law_least", Str.ofString "pick", Str.ofString "union", Str.ofString "part", Str.ofString "chosen", Str.ofString "point", Str.ofString "group", Str.ofString "_law_by_unions", Str.ofString "inside", Str.ofString "laid", Str.ofString "room", Str.ofString "_law_by_rooms", Str.ofString "row"]
noncomputable abbrev tab : Nat → Str := mkTab names
noncomputable def sc0 : Scope := { kind := .function, names := [(".0", .local), ("a", .local), ("b", .local), ("c", .local)], isGenerator := false, isCoroutine := false, more := [] }
noncomputable def sc1 : Scope := { kind := .function, names := [(".0", .local), ("place", .local), ("q", .local), ("figures", .free), ("k", .free)], isGenerator := false, isCoroutine := false, more := [] }
noncomputable def sc2 : Scope := { kind := .function, names := [(".0", .local), ("j", .local), ("k", .free), ("masks", .free)], isGenerator := false, isCoroutine := false, more := [] }
noncomputable def sc3 : Scope := { kind := .function, names := [(".0", .local), ("mask", .local), ("here", .free)], isGenerator := false, isCoroutine := false, more := [] }
noncomputable def sc4 : Scope := { kind := .function, names := [(".0", .local), ("order", .local), ("k", .local), ("range", .globalImplicit), ("len", .globalImplicit), ("p", .free)], isGenerator := false, isCoroutine := false, more := [] }
noncomputable def sc5 : Scope := { kind := .function, names := [(".0", .local), ("group", .local), ("point", .local)], isGenerator := false, isCoroutine := false, more := [] }
noncomputable def sc6 : Scope := { kind := .function, names := [(".0", .local), ("k", .local), ("least", .free), ("pick", .free)], isGenerator := false, isCoroutine := false, more := [] }
noncomputable def sc7 : Scope := { kind := .function, names := [(".0", .local), ("point", .local), ("contains", .globalImplicit), ("room", .free)], isGenerator := false, isCoroutine := false, more := [] }
noncomputable def sc8 : Scope := { kind := .function, names := [(".0", .local), ("group", .local), ("room", .free)], isGenerator := false, isCoroutine := false, more := [] }
noncomputable def sc9 : Scope := { kind := .function, names := [(".0", .local), ("p", .local), ("pick", .free)], isGenerator := false, isCoroutine := false, more := [] }
noncomputable def sc10 : Scope := { kind := .function, names := [(".0", .local), ("q", .local)], isGenerator := false, isCoroutine := false, more := [] }
noncomputable def sc11 : Scope := { kind := .function, names := [(".0", .local), ("row", .local)], isGenerator := false, isCoroutine := false, more := [] }
/-- _deduplicate_unhashable(unhashable_params) -/
noncomputable def b_deduplicate_unhashable : Ss :=
  (.cons (.own 1 .nil ⟨3, 21, 3, 23⟩ ⟨3, 4, 3, 18⟩ ⟨3, 4, 3, 23⟩)
  (.cons (.for (.one 2 ⟨4, 8, 4, 9⟩) (.of (.var 0 ⟨4, 13, 4, 30⟩)) (.cons (.ite (.cmp .notin (.var 2 ⟨5, 11, 5, 12⟩) (.var 1 ⟨5, 20, 5, 34⟩) ⟨5, 11, 5, 34⟩) (.cons (.append 1 (.var 2 ⟨6, 34, 6, 35⟩) ⟨6, 12, 6, 26⟩ ⟨6, 12, 6, 33⟩ ⟨6, 12, 6, 36⟩)
  .nil) .nil ⟨5, 8, 6, 36⟩)
  .nil) ⟨4, 4, 6, 36⟩)
  (.cons (.ret (.var 1 ⟨7, 11, 7, 25⟩) ⟨7, 4, 7, 25⟩)
  .nil)))
/-- _compare_args_orderless(first_args, second_args) -/
noncomputable def b_compare_args_orderless : Ss :=
  (.cons (.assign 6 (.call 3 (.cons (.var 4 ⟨9, 47, 9, 57⟩) .nil) ⟨9, 23, 9, 46⟩ ⟨9, 23, 9, 58⟩) ⟨9, 4, 9, 20⟩ ⟨9, 4, 9, 58⟩)
  (.cons (.assign 8 (.call 3 (.cons (.var 5 ⟨10, 48, 10, 59⟩) .nil) ⟨10, 24, 10, 47⟩ ⟨10, 24, 10, 60⟩) ⟨10, 4, 10, 21⟩ ⟨10, 4, 10, 60⟩)
  (.cons (.copy 2 (.var 8 ⟨11, 13, 11, 30⟩) ⟨11, 8, 11, 12⟩ ⟨11, 8, 11, 31⟩ ⟨11, 4, 11, 5⟩ ⟨11, 4, 11, 31⟩)
  (.cons (.tryRemove 2 6 7 ⟨13, 12, 13, 16⟩ ⟨13, 20, 13, 36⟩ ⟨14, 12, 14, 13⟩ ⟨14, 12, 14, 20⟩ ⟨14, 21, 14, 25⟩ ⟨14, 12, 14, 26⟩ ⟨13, 8, 14, 26⟩ ⟨15, 11, 15, 21⟩ ⟨16, 15, 16, 20⟩ ⟨16, 8, 16, 20⟩ ⟨15, 4, 16, 20⟩ ⟨12, 4, 16, 20⟩)
  (.cons (.ret (.notL 2 ⟨17, 15, 17, 16⟩ ⟨17, 11, 17, 16⟩) ⟨17, 4, 17, 16⟩)
  .nil)))))
/-- contains(a, b) -/
noncomputable def b_contains : Ss :=
  (.cons (.ret (.cmp .isin (.var 11 ⟨20, 11, 20, 12⟩) (.var 10 ⟨20, 16, 20, 17⟩) ⟨20, 11, 20, 17⟩) ⟨20, 4, 20, 17⟩)
  .nil)
/-- countOf(a, b) -/
noncomputable def b_countOf : Ss :=
  (.cons (.assign 13 (.int (0) ⟨22, 12, 22, 13⟩) ⟨22, 4, 22, 9⟩ ⟨22, 4, 22, 13⟩)
  (.cons (.for (.one 14 ⟨23, 8, 23, 9⟩) (.of (.var 10 ⟨23, 13, 23, 14⟩)) (.cons (.ite (.isOrEq 14 11 ⟨24, 11, 24, 12⟩ ⟨24, 16, 24, 17⟩ ⟨24, 21, 24, 22⟩ ⟨24, 26, 24, 27⟩ ⟨24, 11, 24, 17⟩ ⟨24, 21, 24, 27⟩ ⟨24, 11, 24, 27⟩) (.cons (.aug 13 (.int (1) ⟨25, 21, 25, 22⟩) ⟨25, 12, 25, 17⟩ ⟨25, 12, 25, 22⟩)
  .nil) .nil ⟨24, 8, 25, 22⟩)
  .nil) ⟨23, 4, 25, 22⟩)
  (.cons (.ret (.var 13 ⟨26, 11, 26, 16⟩) ⟨26, 4, 26, 16⟩)
  .nil)))
/-- _law_figures(script) -/
noncomputable def b_law_figures : Ss :=
  (.cons (.own 18 .nil ⟨29, 14, 29, 16⟩ ⟨29, 4, 29, 11⟩ ⟨29, 4, 29, 16⟩)
  (.cons (.for (.tup [(19, ⟨30, 8, 30, 9⟩), (20, ⟨30, 11, 30, 16⟩)] ⟨30, 8, 30, 16⟩) (.enum (.list (.cons (.int (4) ⟨30, 31, 30, 32⟩) (.cons (.int (41) ⟨30, 34, 30, 36⟩) (.cons (.int (35) ⟨30, 38, 30, 40⟩) (.cons (.int (6) ⟨30, 42, 30, 43⟩) .nil)))) ⟨30, 30, 30, 44⟩) ⟨30, 20, 30, 29⟩ ⟨30, 20, 30, 45⟩) (.cons (.assign 21 (.bin .add (.var 20 ⟨31, 16, 31, 21⟩) (.sum (.slice (.var 16 ⟨31, 28, 31, 34⟩) (.var 19 ⟨31, 35, 31, 36⟩) (.int (12) ⟨31, 37, 31, 39⟩) (.int (4) ⟨31, 40, 31, 41⟩) ⟨31, 35, 31, 41⟩ ⟨31, 28, 31, 42⟩) ⟨31, 24, 31, 27⟩ ⟨31, 24, 31, 43⟩) ⟨31, 16, 31, 43⟩) ⟨31, 8, 31, 13⟩ ⟨31, 8, 31, 43⟩)
  (.cons (.append 18 (.list (.cons (.bin .mod (.var 21 ⟨32, 24, 32, 29⟩) (.int (4) ⟨32, 32, 32, 33⟩) ⟨32, 24, 32, 33⟩) (.cons (.bin .mod (.bin .fdiv (.var 21 ⟨32, 35, 32, 40⟩) (.int (4) ⟨32, 44, 32, 45⟩) ⟨32, 35, 32, 45⟩) (.int (4) ⟨32, 48, 32, 49⟩) ⟨32, 35, 32, 49⟩) (.cons (.bin .mod (.bin .fdiv (.var 21 ⟨32, 51, 32, 56⟩) (.int (16) ⟨32, 60, 32, 62⟩) ⟨32, 51, 32, 62⟩) (.int (4) ⟨32, 65, 32, 66⟩) ⟨32, 51, 32, 66⟩) .nil))) ⟨32, 23, 32, 67⟩) ⟨32, 8, 32, 15⟩ ⟨32, 8, 32, 22⟩ ⟨32, 8, 32, 68⟩)
  .nil)) ⟨30, 4, 32, 68⟩)
  (.cons (.ret (.var 18 ⟨33, 11, 33, 18⟩) ⟨33, 4, 33, 18⟩)
  .nil)))
/-- _law_masks(figures) -/
noncomputable def b_law_masks : Ss :=
  (.cons (.ret (.comp (.bin .bor (.bin .bor (.bin .shl (.int (1) ⟨35, 12, 35, 13⟩) (.var 10 ⟨35, 17, 35, 18⟩) ⟨35, 12, 35, 18⟩) (.bin .shl (.int (1) ⟨35, 21, 35, 22⟩) (.var 11 ⟨35, 26, 35, 27⟩) ⟨35, 21, 35, 27⟩) ⟨35, 12, 35, 27⟩) (.bin .shl (.int (1) ⟨35, 30, 35, 31⟩) (.var 23 ⟨35, 35, 35, 36⟩) ⟨35, 30, 35, 36⟩) ⟨35, 12, 35, 36⟩) (.gen (.tup [(10, ⟨35, 41, 35, 42⟩), (11, ⟨35, 44, 35, 45⟩), (23, ⟨35, 47, 35, 48⟩)] ⟨35, 41, 35, 48⟩) (.of (.var 18 ⟨35, 52, 35, 59⟩)) .nil .done) sc0 ⟨35, 11, 35, 60⟩) ⟨35, 4, 35, 60⟩)
  .nil)
/-- _law_due(figures) -/
noncomputable def b_law_due : Ss :=
  (.cons (.assign 30 (.call 24 (.cons (.var 18 ⟨37, 23, 37, 30⟩) .nil) ⟨37, 12, 37, 22⟩ ⟨37, 12, 37, 31⟩) ⟨37, 4, 37, 9⟩ ⟨37, 4, 37, 31⟩)
  (.cons (.own 25 .nil ⟨38, 10, 38, 12⟩ ⟨38, 4, 38, 7⟩ ⟨38, 4, 38, 12⟩)
  (.cons (.for (.one 19 ⟨39, 8, 39, 9⟩) (.range1 (.int (4) ⟨39, 19, 39, 20⟩) ⟨39, 13, 39, 18⟩ ⟨39, 13, 39, 21⟩) (.cons (.assign 26 (.comp (.var 29 ⟨40, 17, 40, 18⟩) (.gen (.one 29 ⟨40, 23, 40, 24⟩) (.range1 (.int (4) ⟨40, 34, 40, 35⟩) ⟨40, 28, 40, 33⟩ ⟨40, 28, 40, 36⟩) (.cons (.and2 (.cmp .eq (.bin .band (.item (.var 30 ⟨40, 40, 40, 45⟩) (.var 29 ⟨40, 46, 40, 47⟩) ⟨40, 40, 40, 48⟩) (.item (.var 30 ⟨40, 51, 40, 56⟩) (.var 19 ⟨40, 57, 40, 58⟩) ⟨40, 51, 40, 59⟩) ⟨40, 40, 40, 59⟩) (.item (.var 30 ⟨40, 63, 40, 68⟩) (.var 29 ⟨40, 69, 40, 70⟩) ⟨40, 63, 40, 71⟩) ⟨40, 40, 40, 71⟩) (.or2 (.cmp .ne (.item (.var 30 ⟨40, 77, 40, 82⟩) (.var 29 ⟨40, 83, 40, 84⟩) ⟨40, 77, 40, 85⟩) (.item (.var 30 ⟨40, 89, 40, 94⟩) (.var 19 ⟨40, 95, 40, 96⟩) ⟨40, 89, 40, 97⟩) ⟨40, 77, 40, 97⟩) (.cmp .lt (.var 29 ⟨40, 101, 40, 102⟩) (.var 19 ⟨40, 105, 40, 106⟩) ⟨40, 101, 40, 106⟩) ⟨40, 77, 40, 106⟩) ⟨40, 40, 40, 107⟩) .nil) .done) sc2 ⟨40, 16, 40, 108⟩) ⟨40, 8, 40, 13⟩ ⟨40, 8, 40, 108⟩)
  (.cons (.ite (.cmp .eq (.var 26 ⟨41, 11, 41, 16⟩) (.list .nil ⟨41, 20, 41, 22⟩) ⟨41, 11, 41, 22⟩) (.cons (.append 25 (.comp (.list (.cons (.var 27 ⟨42, 25, 42, 26⟩) .nil) ⟨42, 24, 42, 27⟩) (.gen (.tup [(28, ⟨42, 32, 42, 37⟩), (27, ⟨42, 39, 42, 40⟩)] ⟨42, 32, 42, 40⟩) (.enum (.item (.var 18 ⟨42, 54, 42, 61⟩) (.var 19 ⟨42, 62, 42, 63⟩) ⟨42, 54, 42, 64⟩) ⟨42, 44, 42, 53⟩ ⟨42, 44, 42, 65⟩) (.cons (.cmp .notin (.var 27 ⟨42, 69, 42, 70⟩) (.slice (.item (.var 18 ⟨42, 78, 42, 85⟩) (.var 19 ⟨42, 86, 42, 87⟩) ⟨42, 78, 42, 88⟩) .nothing (.var 28 ⟨42, 90, 42, 95⟩) .nothing ⟨42, 89, 42, 95⟩ ⟨42, 78, 42, 96⟩) ⟨42, 69, 42, 96⟩) .nil) .done) sc1 ⟨42, 23, 42, 97⟩) ⟨42, 12, 42, 15⟩ ⟨42, 12, 42, 22⟩ ⟨42, 12, 42, 98⟩)
  .nil) .nil ⟨41, 8, 42, 98⟩)
  .nil)) ⟨39, 4, 42, 98⟩)
  (.cons (.ret (.var 25 ⟨43, 11, 43, 14⟩) ⟨43, 4, 43, 14⟩)
  .nil))))
/-- _law_by_orders(figures) -/
noncomputable def b_law_by_orders : Ss :=
  (.cons (.assign 30 (.call 24 (.cons (.var 18 ⟨45, 23, 45, 30⟩) .nil) ⟨45, 12, 45, 22⟩ ⟨45, 12, 45, 31⟩) ⟨45, 4, 45, 9⟩ ⟨45, 4, 45, 31⟩)
  (.cons (.assign 34 (.list (.cons (.list .nil ⟨46, 14, 46, 16⟩) .nil) ⟨46, 13, 46, 17⟩) ⟨46, 4, 46, 10⟩ ⟨46, 4, 46, 17⟩)
  (.cons (.for (.one 35 ⟨47, 8, 47, 9⟩) (.range1 (.int (4) ⟨47, 19, 47, 20⟩) ⟨47, 13, 47, 18⟩ ⟨47, 13, 47, 21⟩) (.cons (.assign 34 (.comp (.bin .add (.bin .add (.slice (.var 33 ⟨48, 18, 48, 23⟩) .nothing (.var 19 ⟨48, 25, 48, 26⟩) .nothing ⟨48, 24, 48, 26⟩ ⟨48, 18, 48, 27⟩) (.list (.cons (.var 35 ⟨48, 31, 48, 32⟩) .nil) ⟨48, 30, 48, 33⟩) ⟨48, 18, 48, 33⟩) (.slice (.var 33 ⟨48, 36, 48, 41⟩) (.var 19 ⟨48, 42, 48, 43⟩) .nothing .nothing ⟨48, 42, 48, 44⟩ ⟨48, 36, 48, 45⟩) ⟨48, 18, 48, 45⟩) (.gen (.one 33 ⟨48, 50, 48, 55⟩) (.of (.var 34 ⟨48, 59, 48, 65⟩)) .nil (.gen (.one 19 ⟨48, 70, 48, 71⟩) (.range1 (.bin .add (.len (.var 33 ⟨48, 85, 48, 90⟩) ⟨48, 81, 48, 84⟩ ⟨48, 81, 48, 91⟩) (.int (1) ⟨48, 94, 48, 95⟩) ⟨48, 81, 48, 95⟩) ⟨48, 75, 48, 80⟩ ⟨48, 75, 48, 96⟩) .nil .done)) sc4 ⟨48, 17, 48, 97⟩) ⟨48, 8, 48, 14⟩ ⟨48, 8, 48, 97⟩)
  .nil) ⟨47, 4, 48, 97⟩)
  (.cons (.own 32 (.cons (.int (0) ⟨49, 14, 49, 15⟩) (.cons (.int (0) ⟨49, 17, 49, 18⟩) (.cons (.int (0) ⟨49, 20, 49, 21⟩) (.cons (.int (0) ⟨49, 23, 49, 24⟩) .nil)))) ⟨49, 13, 49, 25⟩ ⟨49, 4, 49, 10⟩ ⟨49, 4, 49, 25⟩)
  (.cons (.for (.one 33 ⟨50, 8, 50, 13⟩) (.of (.var 34 ⟨50, 17, 50, 23⟩)) (.cons (.assign 37 (.int (0) ⟨51, 15, 51, 16⟩) ⟨51, 8, 51, 12⟩ ⟨51, 8, 51, 16⟩)
  (.cons (.for (.one 35 ⟨52, 12, 52, 13⟩) (.of (.var 33 ⟨52, 17, 52, 22⟩)) (.cons (.assign 37 (.bin .bor (.var 37 ⟨53, 19, 53, 23⟩) (.bin .shl (.int (1) ⟨53, 26, 53, 27⟩) (.var 35 ⟨53, 31, 53, 32⟩) ⟨53, 26, 53, 32⟩) ⟨53, 19, 53, 32⟩) ⟨53, 12, 53, 16⟩ ⟨53, 12, 53, 32⟩)
  (.cons (.ite (.cmp .ne (.comp (.var 36 ⟨54, 16, 54, 20⟩) (.gen (.one 36 ⟨54, 25, 54, 29⟩) (.of (.var 30 ⟨54, 33, 54, 38⟩)) (.cons (.cmp .eq (.bin .band (.var 36 ⟨54, 42, 54, 46⟩) (.var 37 ⟨54, 49, 54, 53⟩) ⟨54, 42, 54, 53⟩) (.var 36 ⟨54, 57, 54, 61⟩) ⟨54, 42, 54, 61⟩) .nil) .done) sc3 ⟨54, 15, 54, 62⟩) (.list .nil ⟨54, 66, 54, 68⟩) ⟨54, 15, 54, 68⟩) (.cons (.setitem 32 (.var 35 ⟨55, 23, 55, 24⟩) (.bin .add (.item (.var 32 ⟨55, 28, 55, 34⟩) (.var 35 ⟨55, 35, 55, 36⟩) ⟨55, 28, 55, 37⟩) (.int (1) ⟨55, 40, 55, 41⟩) ⟨55, 28, 55, 41⟩) ⟨55, 16, 55, 22⟩ ⟨55, 16, 55, 25⟩ ⟨55, 16, 55, 41⟩)
  (.cons (.brk ⟨56, 16, 56, 21⟩)
  .nil)) .nil ⟨54, 12, 56, 21⟩)
  .nil)) ⟨52, 8, 56, 21⟩)
  .nil)) ⟨50, 4, 56, 21⟩)
  (.cons (.ret (.var 32 ⟨57, 11, 57, 17⟩) ⟨57, 4, 57, 17⟩)
  .nil))))))
/-- _law_lies_in(rows, j, k) -/
noncomputable def b_law_lies_in : Ss :=
  (.cons (.assign 40 (.bin .add (.item (.var 39 ⟨59, 13, 59, 17⟩) (.var 29 ⟨59, 18, 59, 19⟩) ⟨59, 13, 59, 20⟩) (.item (.var 39 ⟨59, 23, 59, 27⟩) (.var 19 ⟨59, 28, 59, 29⟩) ⟨59, 23, 59, 30⟩) ⟨59, 13, 59, 30⟩) ⟨59, 4, 59, 10⟩ ⟨59, 4, 59, 30⟩)
  (.cons (.ite (.cmp .lt (.var 29 ⟨60, 7, 60, 8⟩) (.var 19 ⟨60, 11, 60, 12⟩) ⟨60, 7, 60, 12⟩) (.cons (.ret (.cmp .is (.call 9 (.cons (.var 40 ⟨61, 39, 61, 45⟩) (.cons (.item (.var 39 ⟨61, 47, 61, 51⟩) (.var 19 ⟨61, 52, 61, 53⟩) ⟨61, 47, 61, 54⟩) .nil)) ⟨61, 15, 61, 38⟩ ⟨61, 15, 61, 55⟩) (.bool true ⟨61, 59, 61, 63⟩) ⟨61, 15, 61, 63⟩) ⟨61, 8, 61, 63⟩)
  .nil) .nil ⟨60, 4, 61, 63⟩)
  (.cons (.ret (.cmp .is (.call 9 (.cons (.item (.var 39 ⟨62, 35, 62, 39⟩) (.var 19 ⟨62, 40, 62, 41⟩) ⟨62, 35, 62, 42⟩) (.cons (.var 40 ⟨62, 44, 62, 50⟩) .nil)) ⟨62, 11, 62, 34⟩ ⟨62, 11, 62, 51⟩) (.bool true ⟨62, 55, 62, 59⟩) ⟨62, 11, 62, 59⟩) ⟨62, 4, 62, 59⟩)
  .nil)))
/-- _law_least(rows) -/
noncomputable def b_law_least : Ss :=
  (.cons (.own 42 .nil ⟨64, 12, 64, 14⟩ ⟨64, 4, 64, 9⟩ ⟨64, 4, 64, 14⟩)
  (.cons (.for (.one 19 ⟨65, 8, 65, 9⟩) (.range1 (.int (4) ⟨65, 19, 65, 20⟩) ⟨65, 13, 65, 18⟩ ⟨65, 13, 65, 21⟩) (.cons (.assign 43 (.bool true ⟨66, 15, 66, 19⟩) ⟨66, 8, 66, 12⟩ ⟨66, 8, 66, 19⟩)
  (.cons (.for (.one 29 ⟨67, 12, 67, 13⟩) (.range1 (.int (4) ⟨67, 23, 67, 24⟩) ⟨67, 17, 67, 22⟩ ⟨67, 17, 67, 25⟩) (.cons (.ite (.and3 (.cmp .ne (.var 29 ⟨68, 15, 68, 16⟩) (.var 19 ⟨68, 20, 68, 21⟩) ⟨68, 15, 68, 21⟩) (.call 41 (.cons (.var 39 ⟨68, 39, 68, 43⟩) (.cons (.var 29 ⟨68, 45, 68, 46⟩) (.cons (.var 19 ⟨68, 48, 68, 49⟩) .nil))) ⟨68, 26, 68, 38⟩ ⟨68, 26, 68, 50⟩) (.or2 (.cmp .lt (.var 29 ⟨68, 56, 68, 57⟩) (.var 19 ⟨68, 60, 68, 61⟩) ⟨68, 56, 68, 61⟩) (.not (.call 41 (.cons (.var 39 ⟨68, 82, 68, 86⟩) (.cons (.var 19 ⟨68, 88, 68, 89⟩) (.cons (.var 29 ⟨68, 91, 68, 92⟩) .nil))) ⟨68, 69, 68, 81⟩ ⟨68, 69, 68, 93⟩) ⟨68, 65, 68, 93⟩) ⟨68, 56, 68, 93⟩) ⟨68, 15, 68, 94⟩) (.cons (.assign 43 (.bool false ⟨69, 23, 69, 28⟩) ⟨69, 16, 69, 20⟩ ⟨69, 16, 69, 28⟩)
  .nil) .nil ⟨68, 12, 69, 28⟩)
  .nil) ⟨67, 8, 69, 28⟩)
  (.cons (.ite (.var 43 ⟨70, 11, 70, 15⟩) (.cons (.append 42 (.call 3 (.cons (.item (.var 39 ⟨71, 49, 71, 53⟩) (.var 19 ⟨71, 54, 71, 55⟩) ⟨71, 49, 71, 56⟩) .nil) ⟨71, 25, 71, 48⟩ ⟨71, 25, 71, 57⟩) ⟨71, 12, 71, 17⟩ ⟨71, 12, 71, 24⟩ ⟨71, 12, 71, 58⟩)
  .nil) .nil ⟨70, 8, 71, 58⟩)
  .nil))) ⟨65, 4, 71, 58⟩)
  (.cons (.ret (.var 42 ⟨72, 11, 72, 16⟩) ⟨72, 4, 72, 16⟩)
  .nil)))
/-- _law_by_unions(least) -/
noncomputable def b_law_by_unions : Ss :=
  (.cons (.own 32 (.cons (.int (0) ⟨74, 14, 74, 15⟩) (.cons (.int (0) ⟨74, 17, 74, 18⟩) (.cons (.int (0) ⟨74, 20, 74, 21⟩) (.cons (.int (0) ⟨74, 23, 74, 24⟩) .nil)))) ⟨74, 13, 74, 25⟩ ⟨74, 4, 74, 10⟩ ⟨74, 4, 74, 25⟩)
  (.cons (.for (.one 45 ⟨75, 8, 75, 12⟩) (.range2 (.int (1) ⟨75, 22, 75, 23⟩) (.bin .shl (.int (1) ⟨75, 25, 75, 26⟩) (.len (.var 42 ⟨75, 34, 75, 39⟩) ⟨75, 30, 75, 33⟩ ⟨75, 30, 75, 40⟩) ⟨75, 25, 75, 40⟩) ⟨75, 16, 75, 21⟩ ⟨75, 16, 75, 41⟩) (.cons (.assign 48 (.comp (.item (.var 42 ⟨76, 18, 76, 23⟩) (.var 19 ⟨76, 24, 76, 25⟩) ⟨76, 18, 76, 26⟩) (.gen (.one 19 ⟨76, 31, 76, 32⟩) (.range1 (.len (.var 42 ⟨76, 46, 76, 51⟩) ⟨76, 42, 76, 45⟩ ⟨76, 42, 76, 52⟩) ⟨76, 36, 76, 41⟩ ⟨76, 36, 76, 53⟩) (.cons (.cmp .eq (.bin .mod (.bin .shr (.var 45 ⟨76, 58, 76, 62⟩) (.var 19 ⟨76, 66, 76, 67⟩) ⟨76, 58, 76, 67⟩) (.int (2) ⟨76, 71, 76, 72⟩) ⟨76, 57, 76, 72⟩) (.int (1) ⟨76, 76, 76, 77⟩) ⟨76, 57, 76, 77⟩) .nil) .done) sc6 ⟨76, 17, 76, 78⟩) ⟨76, 8, 76, 14⟩ ⟨76, 8, 76, 78⟩)
  (.cons (.assign 46 (.call 3 (.cons (.comp (.var 49 ⟨77, 41, 77, 46⟩) (.gen (.one 50 ⟨77, 51, 77, 56⟩) (.of (.var 48 ⟨77, 60, 77, 66⟩)) .nil (.gen (.one 49 ⟨77, 71, 77, 76⟩) (.of (.var 50 ⟨77, 80, 77, 85⟩)) .nil .done)) sc5 ⟨77, 40, 77, 86⟩) .nil) ⟨77, 16, 77, 39⟩ ⟨77, 16, 77, 87⟩) ⟨77, 8, 77, 13⟩ ⟨77, 8, 77, 87⟩)
  (.cons (.assign 47 (.bin .fdiv (.int (24) ⟨78, 15, 78, 17⟩) (.len (.var 46 ⟨78, 25, 78, 30⟩) ⟨78, 21, 78, 24⟩ ⟨78, 21, 78, 31⟩) ⟨78, 15, 78, 31⟩) ⟨78, 8, 78, 12⟩ ⟨78, 8, 78, 31⟩)
  (.cons (.ite (.cmp .eq (.bin .mod (.len (.var 48 ⟨79, 15, 79, 21⟩) ⟨79, 11, 79, 14⟩ ⟨79, 11, 79, 22⟩) (.int (2) ⟨79, 25, 79, 26⟩) ⟨79, 11, 79, 26⟩) (.int (0) ⟨79, 30, 79, 31⟩) ⟨79, 11, 79, 31⟩) (.cons (.assign 47 (.neg (.var 47 ⟨80, 20, 80, 24⟩) ⟨80, 19, 80, 24⟩) ⟨80, 12, 80, 16⟩ ⟨80, 12, 80, 24⟩)
  .nil) .nil ⟨79, 8, 80, 24⟩)
  (.cons (.for (.one 35 ⟨81, 12, 81, 13⟩) (.range1 (.int (4) ⟨81, 23, 81, 24⟩) ⟨81, 17, 81, 22⟩ ⟨81, 17, 81, 25⟩) (.cons (.ite (.cmp .is (.call 12 (.cons (.var 46 ⟨82, 24, 82, 29⟩) (.cons (.list (.cons (.var 35 ⟨82, 32, 82, 33⟩) .nil) ⟨82, 31, 82, 34⟩) .nil)) ⟨82, 15, 82, 23⟩ ⟨82, 15, 82, 35⟩) (.bool true ⟨82, 39, 82, 43⟩) ⟨82, 15, 82, 43⟩) (.cons (.setitem 32 (.var 35 ⟨83, 23, 83, 24⟩) (.bin .add (.item (.var 32 ⟨83, 28, 83, 34⟩) (.var 35 ⟨83, 35, 83, 36⟩) ⟨83, 28, 83, 37⟩) (.var 47 ⟨83, 40, 83, 44⟩) ⟨83, 28, 83, 44⟩) ⟨83, 16, 83, 22⟩ ⟨83, 16, 83, 25⟩ ⟨83, 16, 83, 44⟩)
  .nil) .nil ⟨82, 12, 83, 44⟩)
  .nil) ⟨81, 8, 83, 44⟩)
  .nil))))) ⟨75, 4, 83, 44⟩)
  (.cons (.ret (.var 32 ⟨84, 11, 84, 17⟩) ⟨84, 4, 84, 17⟩)
  .nil)))
/-- _law_by_rooms(least) -/
noncomputable def b_law_by_rooms : Ss :=
  (.cons (.own 32 (.cons (.int (0) ⟨86, 14, 86, 15⟩) (.cons (.int (0) ⟨86, 17, 86, 18⟩) (.cons (.int (0) ⟨86, 20, 86, 21⟩) (.cons (.int (0) ⟨86, 23, 86, 24⟩) .nil)))) ⟨86, 13, 86, 25⟩ ⟨86, 4, 86, 10⟩ ⟨86, 4, 86, 25⟩)
  (.cons (.for (.one 45 ⟨87, 8, 87, 12⟩) (.range2 (.int (1) ⟨87, 22, 87, 23⟩) (.int (16) ⟨87, 25, 87, 27⟩) ⟨87, 16, 87, 21⟩ ⟨87, 16, 87, 28⟩) (.cons (.assign 54 (.comp (.list (.cons (.var 35 ⟨88, 17, 88, 18⟩) .nil) ⟨88, 16, 88, 19⟩) (.gen (.one 35 ⟨88, 24, 88, 25⟩) (.range1 (.int (4) ⟨88, 35, 88, 36⟩) ⟨88, 29, 88, 34⟩ ⟨88, 29, 88, 37⟩) (.cons (.cmp .eq (.bin .mod (.bin .shr (.var 45 ⟨88, 42, 88, 46⟩) (.var 35 ⟨88, 50, 88, 51⟩) ⟨88, 42, 88, 51⟩) (.int (2) ⟨88, 55, 88, 56⟩) ⟨88, 41, 88, 56⟩) (.int (1) ⟨88, 60, 88, 61⟩) ⟨88, 41, 88, 61⟩) .nil) .done) sc9 ⟨88, 15, 88, 62⟩) ⟨88, 8, 88, 12⟩ ⟨88, 8, 88, 62⟩)
  (.cons (.assign 52 (.comp (.var 50 ⟨89, 18, 89, 23⟩) (.gen (.one 50 ⟨89, 28, 89, 33⟩) (.of (.var 42 ⟨89, 37, 89, 42⟩)) (.cons (.cmp .eq (.comp (.var 49 ⟨89, 47, 89, 52⟩) (.gen (.one 49 ⟨89, 57, 89, 62⟩) (.of (.var 50 ⟨89, 66, 89, 71⟩)) (.cons (.cmp .isnot (.call 12 (.cons (.var 54 ⟨89, 84, 89, 88⟩) (.cons (.var 49 ⟨89, 90, 89, 95⟩) .nil)) ⟨89, 75, 89, 83⟩ ⟨89, 75, 89, 96⟩) (.bool true ⟨89, 104, 89, 108⟩) ⟨89, 75, 89, 108⟩) .nil) .done) sc7 ⟨89, 46, 89, 109⟩) (.list .nil ⟨89, 113, 89, 115⟩) ⟨89, 46, 89, 115⟩) .nil) .done) sc8 ⟨89, 17, 89, 116⟩) ⟨89, 8, 89, 14⟩ ⟨89, 8, 89, 116⟩)
  (.cons (.ite (.cmp .ne (.var 52 ⟨90, 11, 90, 17⟩) (.list .nil ⟨90, 21, 90, 23⟩) ⟨90, 11, 90, 23⟩) (.cons (.assign 53 (.comp (.var 49 ⟨91, 20, 91, 25⟩) (.gen (.one 50 ⟨91, 30, 91, 35⟩) (.of (.var 52 ⟨91, 39, 91, 45⟩)) .nil (.gen (.one 49 ⟨91, 50, 91, 55⟩) (.of (.var 50 ⟨91, 59, 91, 64⟩)) .nil .done)) sc5 ⟨91, 19, 91, 65⟩) ⟨91, 12, 91, 16⟩ ⟨91, 12, 91, 65⟩)
  (.cons (.assign 47 (.item (.list (.cons (.int (0) ⟨92, 20, 92, 21⟩) (.cons (.int (6) ⟨92, 23, 92, 24⟩) (.cons (.int (2) ⟨92, 26, 92, 27⟩) (.cons (.int (2) ⟨92, 29, 92, 30⟩) (.cons (.int (6) ⟨92, 32, 92, 33⟩) .nil))))) ⟨92, 19, 92, 34⟩) (.len (.var 54 ⟨92, 39, 92, 43⟩) ⟨92, 35, 92, 38⟩ ⟨92, 35, 92, 44⟩) ⟨92, 19, 92, 45⟩) ⟨92, 12, 92, 16⟩ ⟨92, 12, 92, 45⟩)
  (.cons (.for (.one 35 ⟨93, 16, 93, 17⟩) (.range1 (.int (4) ⟨93, 27, 93, 28⟩) ⟨93, 21, 93, 26⟩ ⟨93, 21, 93, 29⟩) (.cons (.ite (.cmp .eq (.call 15 (.cons (.var 53 ⟨94, 27, 94, 31⟩) (.cons (.list (.cons (.var 35 ⟨94, 34, 94, 35⟩) .nil) ⟨94, 33, 94, 36⟩) .nil)) ⟨94, 19, 94, 26⟩ ⟨94, 19, 94, 37⟩) (.len (.var 52 ⟨94, 45, 94, 51⟩) ⟨94, 41, 94, 44⟩ ⟨94, 41, 94, 52⟩) ⟨94, 19, 94, 52⟩) (.cons (.setitem 32 (.var 35 ⟨95, 27, 95, 28⟩) (.bin .add (.item (.var 32 ⟨95, 32, 95, 38⟩) (.var 35 ⟨95, 39, 95, 40⟩) ⟨95, 32, 95, 41⟩) (.var 47 ⟨95, 44, 95, 48⟩) ⟨95, 32, 95, 48⟩) ⟨95, 20, 95, 26⟩ ⟨95, 20, 95, 29⟩ ⟨95, 20, 95, 48⟩)
  .nil) .nil ⟨94, 16, 95, 48⟩)
  .nil) ⟨93, 12, 95, 48⟩)
  .nil))) .nil ⟨90, 8, 95, 48⟩)
  .nil))) ⟨87, 4, 95, 48⟩)
  (.cons (.ret (.var 32 ⟨96, 11, 96, 17⟩) ⟨96, 4, 96, 17⟩)
  .nil)))
/-- law(script) -/
noncomputable def b_law : Ss :=
  (.cons (.assign 18 (.call 22 (.cons (.var 16 ⟨98, 27, 98, 33⟩) .nil) ⟨98, 14, 98, 26⟩ ⟨98, 14, 98, 34⟩) ⟨98, 4, 98, 11⟩ ⟨98, 4, 98, 34⟩)
  (.cons (.assign 30 (.call 24 (.cons (.var 18 ⟨99, 23, 99, 30⟩) .nil) ⟨99, 12, 99, 22⟩ ⟨99, 12, 99, 31⟩) ⟨99, 4, 99, 9⟩ ⟨99, 4, 99, 31⟩)
  (.cons (.assign 39 (.comp (.comp (.list (.cons (.var 27 ⟨100, 14, 100, 15⟩) .nil) ⟨100, 13, 100, 16⟩) (.gen (.one 27 ⟨100, 21, 100, 22⟩) (.of (.var 56 ⟨100, 26, 100, 29⟩)) .nil .done) sc10 ⟨100, 12, 100, 30⟩) (.gen (.one 56 ⟨100, 35, 100, 38⟩) (.of (.var 18 ⟨100, 42, 100, 49⟩)) .nil .done) sc11 ⟨100, 11, 100, 50⟩) ⟨100, 4, 100, 8⟩ ⟨100, 4, 100, 50⟩)
  (.cons (.for (.one 29 ⟨101, 8, 101, 9⟩) (.range1 (.int (4) ⟨101, 19, 101, 20⟩) ⟨101, 13, 101, 18⟩ ⟨101, 13, 101, 21⟩) (.cons (.for (.one 19 ⟨102, 12, 102, 13⟩) (.range1 (.int (4) ⟨102, 23, 102, 24⟩) ⟨102, 17, 102, 22⟩ ⟨102, 17, 102, 25⟩) (.cons (.ite (.cmp .isnot (.call 9 (.cons (.item (.var 39 ⟨103, 39, 103, 43⟩) (.var 29 ⟨103, 44, 103, 45⟩) ⟨103, 39, 103, 46⟩) (.cons (.item (.var 39 ⟨103, 48, 103, 52⟩) (.var 19 ⟨103, 53, 103, 54⟩) ⟨103, 48, 103, 55⟩) .nil)) ⟨103, 15, 103, 38⟩ ⟨103, 15, 103, 56⟩) (.cmp .eq (.item (.var 30 ⟨103, 65, 103, 70⟩) (.var 29 ⟨103, 71, 103, 72⟩) ⟨103, 65, 103, 73⟩) (.item (.var 30 ⟨103, 77, 103, 82⟩) (.var 19 ⟨103, 83, 103, 84⟩) ⟨103, 77, 103, 85⟩) ⟨103, 65, 103, 85⟩) ⟨103, 15, 103, 86⟩) (.cons (.ret (.bool false ⟨104, 23, 104, 28⟩) ⟨104, 16, 104, 28⟩)
  .nil) .nil ⟨103, 12, 104, 28⟩)
  .nil) ⟨102, 8, 104, 28⟩)
  .nil) ⟨101, 4, 104, 28⟩)
  (.cons (.assign 42 (.call 44 (.cons (.var 39 ⟨105, 23, 105, 27⟩) .nil) ⟨105, 12, 105, 22⟩ ⟨105, 12, 105, 28⟩) ⟨105, 4, 105, 9⟩ ⟨105, 4, 105, 28⟩)
  (.cons (.ite (.cmp .ne (.var 42 ⟨106, 7, 106, 12⟩) (.call 31 (.cons (.var 18 ⟨106, 25, 106, 32⟩) .nil) ⟨106, 16, 106, 24⟩ ⟨106, 16, 106, 33⟩) ⟨106, 7, 106, 33⟩) (.cons (.ret (.bool false ⟨107, 15, 107, 20⟩) ⟨107, 8, 107, 20⟩)
  .nil) .nil ⟨106, 4, 107, 20⟩)
  (.cons (.assign 25 (.call 38 (.cons (.var 18 ⟨108, 25, 108, 32⟩) .nil) ⟨108, 10, 108, 24⟩ ⟨108, 10, 108, 33⟩) ⟨108, 4, 108, 7⟩ ⟨108, 4, 108, 33⟩)
  (.cons (.ret (.and2 (.cmp .eq (.call 51 (.cons (.var 42 ⟨109, 26, 109, 31⟩) .nil) ⟨109, 11, 109, 25⟩ ⟨109, 11, 109, 32⟩) (.var 25 ⟨109, 36, 109, 39⟩) ⟨109, 11, 109, 39⟩) (.cmp .eq (.call 55 (.cons (.var 42 ⟨109, 58, 109, 63⟩) .nil) ⟨109, 44, 109, 57⟩ ⟨109, 44, 109, 64⟩) (.var 25 ⟨109, 68, 109, 71⟩) ⟨109, 44, 109, 71⟩) ⟨109, 11, 109, 71⟩) ⟨109, 4, 109, 71⟩)
  .nil))))))))
theorem kf_1_18 (ρ : Vw) : keepFree tab sc1 ρ 18 = ρ 18 := keepFree_of (by kernel_rfl)
theorem kf_1_19 (ρ : Vw) : keepFree tab sc1 ρ 19 = ρ 19 := keepFree_of (by kernel_rfl)
theorem kf_2_19 (ρ : Vw) : keepFree tab sc2 ρ 19 = ρ 19 := keepFree_of (by kernel_rfl)
theorem kf_2_30 (ρ : Vw) : keepFree tab sc2 ρ 30 = ρ 30 := keepFree_of (by kernel_rfl)
theorem kf_3_37 (ρ : Vw) : keepFree tab sc3 ρ 37 = ρ 37 := keepFree_of (by kernel_rfl)
theorem kf_4_35 (ρ : Vw) : keepFree tab sc4 ρ 35 = ρ 35 := keepFree_of (by kernel_rfl)
theorem kf_6_42 (ρ : Vw) : keepFree tab sc6 ρ 42 = ρ 42 := keepFree_of (by kernel_rfl)
theorem kf_6_45 (ρ : Vw) : keepFree tab sc6 ρ 45 = ρ 45 := keepFree_of (by kernel_rfl)
theorem kf_7_54 (ρ : Vw) : keepFree tab sc7 ρ 54 = ρ 54 := keepFree_of (by kernel_rfl)
theorem kf_8_54 (ρ : Vw) : keepFree tab sc8 ρ 54 = ρ 54 := keepFree_of (by kernel_rfl)
theorem kf_9_45 (ρ : Vw) : keepFree tab sc9 ρ 45 = ρ 45 := keepFree_of (by kernel_rfl)
theorem kfs : (∀ ρ : Vw, keepFree tab sc1 ρ 18 = ρ 18) ∧ (∀ ρ : Vw, keepFree tab sc1 ρ 19 = ρ 19) ∧ (∀ ρ : Vw, keepFree tab sc2 ρ 19 = ρ 19) ∧ (∀ ρ : Vw, keepFree tab sc2 ρ 30 = ρ 30) ∧ (∀ ρ : Vw, keepFree tab sc3 ρ 37 = ρ 37) ∧ (∀ ρ : Vw, keepFree tab sc4 ρ 35 = ρ 35) ∧ (∀ ρ : Vw, keepFree tab sc6 ρ 42 = ρ 42) ∧ (∀ ρ : Vw, keepFree tab sc6 ρ 45 = ρ 45) ∧ (∀ ρ : Vw, keepFree tab sc7 ρ 54 = ρ 54) ∧ (∀ ρ : Vw, keepFree tab sc8 ρ 54 = ρ 54) ∧ (∀ ρ : Vw, keepFree tab sc9 ρ 45 = ρ 45) := ⟨kf_1_18, kf_1_19, kf_2_19, kf_2_30, kf_3_37, kf_4_35, kf_6_42, kf_6_45, kf_7_54, kf_8_54, kf_9_45⟩
noncomputable def defs : Defs := [(3, [0], b_deduplicate_unhashable), (9, [4, 5], b_compare_args_orderless), (12, [10, 11], b_contains), (15, [10, 11], b_countOf), (22, [16], b_law_figures), (24, [18], b_law_masks), (31, [18], b_law_due), (38, [18], b_law_by_orders), (41, [39, 29, 19], b_law_lies_in), (44, [39], b_law_least), (51, [42], b_law_by_unions), (55, [42], b_law_by_rooms), (17, [16], b_law)]
noncomputable def a_deduplicate_unhashable : Arguments := ⟨[], [⟨"unhashable_params", none, ⟨2, 28, 2, 45⟩⟩], none, [], [], none, []⟩
theorem bd_deduplicate_unhashable : BindOk a_deduplicate_unhashable [tab 0] := fun n body sc pm cd doc vs h => by
  obtain ⟨v, rfl⟩ := len1 h
  kernel_rfl
noncomputable def a_compare_args_orderless : Arguments := ⟨[], [⟨"first_args", none, ⟨8, 28, 8, 38⟩⟩, ⟨"second_args", none, ⟨8, 40, 8, 51⟩⟩], none, [], [], none, []⟩
theorem bd_compare_args_orderless : BindOk a_compare_args_orderless [tab 4, tab 5] := fun n body sc pm cd doc vs h => by
  obtain ⟨v, w, rfl⟩ := len2 h
  kernel_rfl
noncomputable def a_contains : Arguments := ⟨[], [⟨"a", none, ⟨19, 13, 19, 14⟩⟩, ⟨"b", none, ⟨19, 16, 19, 17⟩⟩], none, [], [], none, []⟩
theorem bd_contains : BindOk a_contains [tab 10, tab 11] := fun n body sc pm cd doc vs h => by
  obtain ⟨v, w, rfl⟩ := len2 h
  kernel_rfl
noncomputable def a_countOf : Arguments := ⟨[], [⟨"a", none, ⟨21, 12, 21, 13⟩⟩, ⟨"b", none, ⟨21, 15, 21, 16⟩⟩], none, [], [], none, []⟩
theorem bd_countOf : BindOk a_countOf [tab 10, tab 11] := fun n body sc pm cd doc vs h => by
  obtain ⟨v, w, rfl⟩ := len2 h
  kernel_rfl
noncomputable def a_law_figures : Arguments := ⟨[], [⟨"script", none, ⟨28, 17, 28, 23⟩⟩], none, [], [], none, []⟩
theorem bd_law_figures : BindOk a_law_figures [tab 16] := fun n body sc pm cd doc vs h => by
  obtain ⟨v, rfl⟩ := len1 h
  kernel_rfl
noncomputable def a_law_masks : Arguments := ⟨[], [⟨"figures", none, ⟨34, 15, 34, 22⟩⟩], none, [], [], none, []⟩
theorem bd_law_masks : BindOk a_law_masks [tab 18] := fun n body sc pm cd doc vs h => by
  obtain ⟨v, rfl⟩ := len1 h
  kernel_rfl
noncomputable def a_law_due : Arguments := ⟨[], [⟨"figures", none, ⟨36, 13, 36, 20⟩⟩], none, [], [], none, []⟩
theorem bd_law_due : BindOk a_law_due [tab 18] := fun n body sc pm cd doc vs h => by
  obtain ⟨v, rfl⟩ := len1 h
  kernel_rfl
noncomputable def a_law_by_orders : Arguments := ⟨[], [⟨"figures", none, ⟨44, 19, 44, 26⟩⟩], none, [], [], none, []⟩
theorem bd_law_by_orders : BindOk a_law_by_orders [tab 18] := fun n body sc pm cd doc vs h => by
  obtain ⟨v, rfl⟩ := len1 h
  kernel_rfl
noncomputable def a_law_lies_in : Arguments := ⟨[], [⟨"rows", none, ⟨58, 17, 58, 21⟩⟩, ⟨"j", none, ⟨58, 23, 58, 24⟩⟩, ⟨"k", none, ⟨58, 26, 58, 27⟩⟩], none, [], [], none, []⟩
theorem bd_law_lies_in : BindOk a_law_lies_in [tab 39, tab 29, tab 19] := fun n body sc pm cd doc vs h => by
  obtain ⟨v, w, u, rfl⟩ := len3 h
  kernel_rfl
noncomputable def a_law_least : Arguments := ⟨[], [⟨"rows", none, ⟨63, 15, 63, 19⟩⟩], none, [], [], none, []⟩
theorem bd_law_least : BindOk a_law_least [tab 39] := fun n body sc pm cd doc vs h => by
  obtain ⟨v, rfl⟩ := len1 h
  kernel_rfl
noncomputable def a_law_by_unions : Arguments := ⟨[], [⟨"least", none, ⟨73, 19, 73, 24⟩⟩], none, [], [], none, []⟩
theorem bd_law_by_unions : BindOk a_law_by_unions [tab 42] := fun n body sc pm cd doc vs h => by
  obtain ⟨v, rfl⟩ := len1 h
  kernel_rfl
noncomputable def a_law_by_rooms : Arguments := ⟨[], [⟨"least", none, ⟨85, 18, 85, 23⟩⟩], none, [], [], none, []⟩
theorem bd_law_by_rooms : BindOk a_law_by_rooms [tab 42] := fun n body sc pm cd doc vs h => by
  obtain ⟨v, rfl⟩ := len1 h
  kernel_rfl
noncomputable def a_law : Arguments := ⟨[], [⟨"script", none, ⟨97, 8, 97, 14⟩⟩], none, [], [], none, []⟩
theorem bd_law : BindOk a_law [tab 16] := fun n body sc pm cd doc vs h => by
  obtain ⟨v, rfl⟩ := len1 h
  kernel_rfl
noncomputable def argsL : List Arguments := [a_deduplicate_unhashable, a_compare_args_orderless, a_contains, a_countOf, a_law_figures, a_law_masks, a_law_due, a_law_by_orders, a_law_lies_in, a_law_least, a_law_by_unions, a_law_by_rooms, a_law]
theorem bindsL : BindsOk argsL (defs.map fun x => x.2.1.map tab) := ⟨bd_deduplicate_unhashable, bd_compare_args_orderless, bd_contains, bd_countOf, bd_law_figures, bd_law_masks, bd_law_due, bd_law_by_orders, bd_law_lies_in, bd_law_least, bd_law_by_unions, bd_law_by_rooms, bd_law, trivial⟩

theorem tabOk : TabOk tab := mkTab_ok (by decide +kernel)
theorem recs : (recsOf PySem.Challenge.pw_wn0002_01).map (fun r => (r.name, r.body)) = defs.map (fun x => (tab x.1, x.2.2.toE tab)) := by kernel_rfl
theorem fits : (((recsOf PySem.Challenge.pw_wn0002_01).zip defs).all fun x => recFits tab x.1 x.2.2.1 x.2.2.2) = true := by kernel_rfl
theorem args : (recsOf PySem.Challenge.pw_wn0002_01).map (·.params) = argsL := by kernel_rfl
theorem binds : BindsOk ((recsOf PySem.Challenge.pw_wn0002_01).map (·.params)) (defs.map fun x => x.2.1.map tab) := by rw [args]; exact bindsL
end L01
end Mine
end

section
namespace Mine
open PySem PySem.W PyProof.Rows
namespace L01

theorem G_step {n i : Nat} {ds : List D} {ps : List Nat} {b : Ss} (h : defs.lookup i = some (ps, b)) : Gfix tab defs (n + 1) i ds = evDef tab (Gfix tab defs n) ps b ds := by
  show (match defs.lookup i with | some (ps, b) => evDef tab (Gfix tab defs n) ps b ds | none => none) = _
  rw [h]

section
variable {α : Type} [DecidableEq α] (E : Enc α)

theorem G_dedup {n : Nat} (hn : 1 ≤ n) (h : E.dep ≤ 48) (xs : List α) (hl : xs.length ≤ lim) : Gfix tab defs n 3 [.list (xs.map E.e)] = some (.list ((dedup xs).map E.e)) := by
  obtain ⟨n, rfl⟩ : ∃ m, n = m + 1 := ⟨n - 1, by omega⟩
  rw [G_step (i := 3) rfl]
  refine evDef_of rfl ?_
  unfold b_deduplicate_unhashable
  refine Ex.step (σ' := upd (argSt [0] [.list (xs.map E.e)]) 1 (true, .list [])) (by simp [exS_e1, exS_e2, exS_e3, exS_e4, exS_e5, exS_e6, exS_e7, exS_e8, exS_e9, exS_e10, exS_e11, exS_e12, exS_e13, evs_e1, evs_e2]) ?_
  refine Ex.loopE (e := E.e) (fun pre σ => σ 1 = some (true, .list ((pre.foldl addNew []).map E.e))) xs (by simp [evIt_e1, evIt_e2, evIt_e3, evIt_e4, ev_e1, ev_e2, ev_e3, ev_e4, ev_e5, ev_e6, ev_e7, ev_e8, ev_e9, ev_e10, ev_e11, ev_e12, ev_e13, ev_e14, ev_e15, ev_e16, ev_e17, ev_e18, ev_e19, ev_e20, ev_e21, ev_e22, ev_e23, ev_e24, ev_e25, ev_e26, ev_e27, ev_e28, St.frozen, upd, argSt, argGo, itemsD, hl]) (by simp [upd]) ?_ ?_
  · intro pre x post σ hx hσ
    refine ⟨_, rfl, ?_⟩
    have hlen : (pre.foldl addNew []).length ≤ lim := by
      have := length_foldNew pre []
      have : pre.length ≤ xs.length := by rw [hx]; simp
      simp at *; omega
    refine Ex.ite (!decide (x ∈ pre.foldl addNew [])) (by simp [ev_e1, ev_e2, ev_e3, ev_e4, ev_e5, ev_e6, ev_e7, ev_e8, ev_e9, ev_e10, ev_e11, ev_e12, ev_e13, ev_e14, ev_e15, ev_e16, ev_e17, ev_e18, ev_e19, ev_e20, ev_e21, ev_e22, ev_e23, ev_e24, ev_e25, ev_e26, ev_e27, ev_e28, St.full, upd, hσ, cmpD, inD_enc E (by omega : E.dep ≤ 49)]) (fun q => ?_) fun q => ?_
    · refine Ex.step (σ' := upd (upd σ 2 (false, E.e x)) 1 (true, .list ((pre.foldl addNew []).map E.e ++ [E.e x]))) ?_ (.nil (.nil ⟨rfl, ?_⟩))
      · simp [exS_e1, exS_e2, exS_e3, exS_e4, exS_e5, exS_e6, exS_e7, exS_e8, exS_e9, exS_e10, exS_e11, exS_e12, exS_e13, evK, ev_e1, ev_e2, ev_e3, ev_e4, ev_e5, ev_e6, ev_e7, ev_e8, ev_e9, ev_e10, ev_e11, ev_e12, ev_e13, ev_e14, ev_e15, ev_e16, ev_e17, ev_e18, ev_e19, ev_e20, ev_e21, ev_e22, ev_e23, ev_e24, ev_e25, ev_e26, ev_e27, ev_e28, St.frozen, upd, hσ, hlen]
      · simp at q
        simp [upd, List.foldl_append, addNew, q]
    · refine .nil (.nil ⟨rfl, ?_⟩)
      simp at q
      simp [upd, hσ, List.foldl_append, addNew, q]
  · intro σ hσ
    exact Ex.ret (by simp [ev_e1, ev_e2, ev_e3, ev_e4, ev_e5, ev_e6, ev_e7, ev_e8, ev_e9, ev_e10, ev_e11, ev_e12, ev_e13, ev_e14, ev_e15, ev_e16, ev_e17, ev_e18, ev_e19, ev_e20, ev_e21, ev_e22, ev_e23, ev_e24, ev_e25, ev_e26, ev_e27, ev_e28, St.full, hσ]; rfl) rfl

theorem rem_loop (t e y : Nat) (py : Pos) (hte : e ≠ t) (h : E.dep ≤ 48) : ∀ (xs ys : List α) (σ : St), xs.Nodup → ys.Nodup → ys.length ≤ lim → σ t = some (true, .list (ys.map E.e)) →
    ∃ σ', loopM (fun d σ' => (bindS (.one e py) d σ').bind fun σ'' => remStep t e σ'') (xs.map E.e) σ = some (σ', if xs.all (· ∈ ys) then .next else .ret (.bool false)) ∧ (xs.all (· ∈ ys) = true → σ' t = some (true, .list ((ys.filter fun y => !decide (y ∈ xs)).map E.e)))
  | [], ys, σ, _, _, _, hσ => ⟨σ, rfl, fun _ => by simpa [List.filter_eq_self.mpr] using hσ⟩
  | x :: xs, ys, σ, hx, hy, hl, hσ => by
    have hx' := List.nodup_cons.mp hx
    have er : ∀ ys : List α, ys.Nodup → eraseFst (E.e x) (ys.map E.e) = if x ∈ ys then some ((ys.filter fun y => !decide (y = x)).map E.e) else none := by
      intro ys hy
      induction ys with
      | nil => simp [eraseFst]
      | cons y r ih =>
        have hy' := List.nodup_cons.mp hy
        simp only [List.map_cons, eraseFst, E.eq]
        by_cases q : y = x
        · subst q
          have : r.filter (fun z => !decide (z = y)) = r := List.filter_eq_self.mpr fun z hz => by
            have : z ≠ y := fun e => hy'.1 (e ▸ hz)
            simp [this]
          simp [this]
        · have q' : ¬ x = y := fun e => q e.symm
          simp only [q, decide_false, Bool.false_eq_true, if_false, ih hy'.2, List.mem_cons, q', false_or]
          by_cases z : x ∈ r <;> simp [z, q]
    have h1 : okD (E.e x) = true := okD_enc E (by omega) x
    have h2 : okD (.list (ys.map E.e)) = true := okDL_enc E (by omega) ys
    have st : (bindS (.one e py) (E.e x) σ).bind (fun σ'' => remStep t e σ'') = if x ∈ ys then some (upd (upd σ e (false, E.e x)) t (true, .list ((ys.filter fun y => !decide (y = x)).map E.e)), .next) else some (upd σ e (false, E.e x), .ret (.bool false)) := by
      have hte' : ¬ t = e := fun q => hte q.symm
      simp only [bindS, Option.bind_some, remStep, upd, if_true, hte', if_false, hσ, h1, h2, List.length_map, hl, decide_true, Bool.and_self, er ys hy]
      by_cases z : x ∈ ys <;> simp [z]
    by_cases z : x ∈ ys
    · rw [if_pos z] at st
      obtain ⟨σ', h3, h4⟩ := rem_loop t e y py hte h xs (ys.filter fun y => !decide (y = x)) (upd (upd σ e (false, E.e x)) t (true, .list ((ys.filter fun y => !decide (y = x)).map E.e))) hx'.2 (hy.sublist List.filter_sublist) (Nat.le_trans (List.length_filter_le ..) hl) (by simp [upd])
      have hall : xs.all (· ∈ ys.filter fun y => !decide (y = x)) = (x :: xs).all (· ∈ ys) := by
        rw [Bool.eq_iff_iff]
        simp only [List.all_eq_true, decide_eq_true_eq, List.mem_filter, List.mem_cons, Bool.not_eq_true', decide_eq_false_iff_not]
        exact ⟨fun q w hw => hw.elim (fun e => e ▸ z) fun hw => (q w hw).1, fun q w hw => ⟨q w (.inr hw), fun e => hx'.1 (e ▸ hw)⟩⟩
      rw [hall] at h3 h4
      refine ⟨σ', by simp only [List.map_cons, loopM, st]; exact h3, fun q => ?_⟩
      rw [h4 q, List.filter_filter]
      have : ∀ w, ((!decide (w ∈ xs)) && !decide (w = x)) = !decide (w ∈ x :: xs) := fun w => by
        by_cases a : w = x <;> by_cases b : w ∈ xs <;> simp [a, b]
      simp only [this]
    · rw [if_neg z] at st
      have hall : (x :: xs).all (· ∈ ys) = false := by simp [z]
      exact ⟨_, by simp only [List.map_cons, loopM, st, hall]; rfl, fun q => by rw [hall] at q; cases q⟩

theorem G_compare {n : Nat} (hn : 2 ≤ n) (h : E.dep ≤ 48) (xs ys : List α) (hx : xs.length ≤ lim) (hy : ys.length ≤ lim) : Gfix tab defs n 9 [.list (xs.map E.e), .list (ys.map E.e)] = some (.bool (same xs ys)) := by
  obtain ⟨n, rfl⟩ : ∃ m, n = m + 1 := ⟨n - 1, by omega⟩
  rw [G_step (i := 9) rfl]
  refine evDef_of rfl ?_
  unfold b_compare_args_orderless
  have d1 : (dedup xs).length ≤ lim := Nat.le_trans (length_dedup xs) hx
  have d2 : (dedup ys).length ≤ lim := Nat.le_trans (length_dedup ys) hy
  refine Ex.step (σ' := upd (argSt [4, 5] [.list (xs.map E.e), .list (ys.map E.e)]) 6 (false, .list ((dedup xs).map E.e))) (by simp [exS_e1, exS_e2, exS_e3, exS_e4, exS_e5, exS_e6, exS_e7, exS_e8, exS_e9, exS_e10, exS_e11, exS_e12, exS_e13, evK, ev_e1, ev_e2, ev_e3, ev_e4, ev_e5, ev_e6, ev_e7, ev_e8, ev_e9, ev_e10, ev_e11, ev_e12, ev_e13, ev_e14, ev_e15, ev_e16, ev_e17, ev_e18, ev_e19, ev_e20, ev_e21, ev_e22, ev_e23, ev_e24, ev_e25, ev_e26, ev_e27, ev_e28, evs_e1, evs_e2, St.frozen, upd, argSt, argGo, G_dedup E (by omega : 1 ≤ n) h xs hx]) ?_
  refine Ex.step (σ' := upd _ 8 (false, .list ((dedup ys).map E.e))) (by simp [exS_e1, exS_e2, exS_e3, exS_e4, exS_e5, exS_e6, exS_e7, exS_e8, exS_e9, exS_e10, exS_e11, exS_e12, exS_e13, evK, ev_e1, ev_e2, ev_e3, ev_e4, ev_e5, ev_e6, ev_e7, ev_e8, ev_e9, ev_e10, ev_e11, ev_e12, ev_e13, ev_e14, ev_e15, ev_e16, ev_e17, ev_e18, ev_e19, ev_e20, ev_e21, ev_e22, ev_e23, ev_e24, ev_e25, ev_e26, ev_e27, ev_e28, evs_e1, evs_e2, St.frozen, upd, argSt, argGo, G_dedup E (by omega : 1 ≤ n) h ys hy]; rfl) ?_
  refine Ex.step (σ' := upd _ 2 (true, .list ((dedup ys).map E.e))) (by simp [exS_e1, exS_e2, exS_e3, exS_e4, exS_e5, exS_e6, exS_e7, exS_e8, exS_e9, exS_e10, exS_e11, exS_e12, exS_e13, ev_e1, ev_e2, ev_e3, ev_e4, ev_e5, ev_e6, ev_e7, ev_e8, ev_e9, ev_e10, ev_e11, ev_e12, ev_e13, ev_e14, ev_e15, ev_e16, ev_e17, ev_e18, ev_e19, ev_e20, ev_e21, ev_e22, ev_e23, ev_e24, ev_e25, ev_e26, ev_e27, ev_e28, St.frozen, upd, d2]; rfl) ?_
  suffices key : ∀ σ : St, σ 2 = some (true, .list ((dedup ys).map E.e)) → σ 6 = some (false, .list ((dedup xs).map E.e)) → Ex tab (Gfix tab defs n) _ σ _ from key _ (by simp [upd]) (by simp [upd])
  intro σ s2 s6
  obtain ⟨σ', h1, h2⟩ := rem_loop E 2 7 6 default (by decide) h (dedup xs) (dedup ys) σ (nodup_dedup xs) (nodup_dedup ys) d2 s2
  have hs : same xs ys = ((dedup xs).all (· ∈ dedup ys) && (dedup ys).all (· ∈ dedup xs)) := by
    rw [Bool.eq_iff_iff, same_iff]
    simp only [Bool.and_eq_true, List.all_eq_true, decide_eq_true_eq, mem_dedup]
    exact ⟨fun q => ⟨fun x => (q x).1, fun x => (q x).2⟩, fun ⟨a, b⟩ x => ⟨a x, b x⟩⟩
  refine Ex.cons ⟨σ', if (dedup xs).all (· ∈ dedup ys) then .next else .ret (.bool false), ?_, ?_⟩
  · rw [← h1]
    have e1 : ∀ p, evIt tab (Gfix tab defs n) (.of (.var 6 p)) σ.frozen = some ((dedup xs).map E.e) := by
      intro p
      simp only [evIt_e1, evIt_e2, evIt_e3, evIt_e4, ev_e1, ev_e2, ev_e3, ev_e4, ev_e5, ev_e6, ev_e7, ev_e8, ev_e9, ev_e10, ev_e11, ev_e12, ev_e13, ev_e14, ev_e15, ev_e16, ev_e17, ev_e18, ev_e19, ev_e20, ev_e21, ev_e22, ev_e23, ev_e24, ev_e25, ev_e26, ev_e27, ev_e28, St.frozen, s6, Option.bind_some]
      exact itemsD_list (by simpa using d1)
    simp only [exS_e1, exS_e2, exS_e3, exS_e4, exS_e5, exS_e6, exS_e7, exS_e8, exS_e9, exS_e10, exS_e11, exS_e12, exS_e13, e1, Option.bind_some]
    rfl
  · rw [hs]
    cases q : (dedup xs).all (· ∈ dedup ys) with
    | false => simp
    | true =>
      have := h2 q
      rw [if_pos rfl]
      refine Ex.ret (d := .bool ((dedup ys).all (· ∈ dedup xs))) ?_ (by simp)
      have hle : ((dedup ys).filter fun y => !decide (y ∈ dedup xs)).length ≤ lim := Nat.le_trans (List.length_filter_le ..) d2
      simp only [ev_e1, ev_e2, ev_e3, ev_e4, ev_e5, ev_e6, ev_e7, ev_e8, ev_e9, ev_e10, ev_e11, ev_e12, ev_e13, ev_e14, ev_e15, ev_e16, ev_e17, ev_e18, ev_e19, ev_e20, ev_e21, ev_e22, ev_e23, ev_e24, ev_e25, ev_e26, ev_e27, ev_e28, St.full, this, Option.map_some, List.length_map, hle, if_true]
      congr 2
      rw [Bool.eq_iff_iff]
      simp [List.filter_eq_nil_iff]

theorem G_contains {n : Nat} (hn : 1 ≤ n) (h : E.dep ≤ 48) (xs : List α) (x : α) : Gfix tab defs n 12 [.list (xs.map E.e), E.e x] = some (.bool (decide (x ∈ xs))) := by
  obtain ⟨n, rfl⟩ : ∃ m, n = m + 1 := ⟨n - 1, by omega⟩
  rw [G_step (i := 12) rfl]
  refine evDef_of rfl ?_
  unfold b_contains
  exact Ex.ret (d := .bool (decide (x ∈ xs))) (by simp [ev_e1, ev_e2, ev_e3, ev_e4, ev_e5, ev_e6, ev_e7, ev_e8, ev_e9, ev_e10, ev_e11, ev_e12, ev_e13, ev_e14, ev_e15, ev_e16, ev_e17, ev_e18, ev_e19, ev_e20, ev_e21, ev_e22, ev_e23, ev_e24, ev_e25, ev_e26, ev_e27, ev_e28, St.full, argSt, argGo, upd, cmpD, inD_enc E (by omega : E.dep ≤ 49)]) rfl

theorem G_countOf {n : Nat} (hn : 1 ≤ n) (h : E.dep ≤ 48) (xs : List α) (x : α) (hl : xs.length ≤ lim) : Gfix tab defs n 15 [.list (xs.map E.e), E.e x] = some (.int (cnt xs x)) := by
  obtain ⟨n, rfl⟩ : ∃ m, n = m + 1 := ⟨n - 1, by omega⟩
  rw [G_step (i := 15) rfl]
  refine evDef_of rfl ?_
  unfold b_countOf
  refine Ex.step (σ' := upd (argSt [10, 11] [.list (xs.map E.e), E.e x]) 13 (false, .int 0)) (by simp [exS_e1, exS_e2, exS_e3, exS_e4, exS_e5, exS_e6, exS_e7, exS_e8, exS_e9, exS_e10, exS_e11, exS_e12, exS_e13, evK, ev_e1, ev_e2, ev_e3, ev_e4, ev_e5, ev_e6, ev_e7, ev_e8, ev_e9, ev_e10, ev_e11, ev_e12, ev_e13, ev_e14, ev_e15, ev_e16, ev_e17, ev_e18, ev_e19, ev_e20, ev_e21, ev_e22, ev_e23, ev_e24, ev_e25, ev_e26, ev_e27, ev_e28]) ?_
  refine Ex.loopE (e := E.e) (fun pre σ => σ 13 = some (false, .int (cnt pre x)) ∧ σ 11 = some (false, E.e x)) xs (by simp [evIt_e1, evIt_e2, evIt_e3, evIt_e4, ev_e1, ev_e2, ev_e3, ev_e4, ev_e5, ev_e6, ev_e7, ev_e8, ev_e9, ev_e10, ev_e11, ev_e12, ev_e13, ev_e14, ev_e15, ev_e16, ev_e17, ev_e18, ev_e19, ev_e20, ev_e21, ev_e22, ev_e23, ev_e24, ev_e25, ev_e26, ev_e27, ev_e28, St.frozen, upd, argSt, argGo, itemsD, hl]) (by simp [upd, argSt, argGo, cnt]) ?_ ?_
  · intro pre y post σ hx ⟨h13, h11⟩
    refine ⟨_, rfl, ?_⟩
    refine Ex.ite (decide (y = x)) (by simp [ev_e1, ev_e2, ev_e3, ev_e4, ev_e5, ev_e6, ev_e7, ev_e8, ev_e9, ev_e10, ev_e11, ev_e12, ev_e13, ev_e14, ev_e15, ev_e16, ev_e17, ev_e18, ev_e19, ev_e20, ev_e21, ev_e22, ev_e23, ev_e24, ev_e25, ev_e26, ev_e27, ev_e28, St.full, upd, h11, E.kind, eqD_enc E (by omega : E.dep ≤ 49)]) (fun q => ?_) fun q => ?_
    · simp only [decide_eq_true_eq] at q
      refine Ex.step (σ' := upd (upd σ 14 (false, E.e y)) 13 (false, .int (cnt pre x + 1))) (by simp [exS_e1, exS_e2, exS_e3, exS_e4, exS_e5, exS_e6, exS_e7, exS_e8, exS_e9, exS_e10, exS_e11, exS_e12, exS_e13, upd, h13, D.num, ev_e1, ev_e2, ev_e3, ev_e4, ev_e5, ev_e6, ev_e7, ev_e8, ev_e9, ev_e10, ev_e11, ev_e12, ev_e13, ev_e14, ev_e15, ev_e16, ev_e17, ev_e18, ev_e19, ev_e20, ev_e21, ev_e22, ev_e23, ev_e24, ev_e25, ev_e26, ev_e27, ev_e28]) (.nil (.nil ⟨rfl, ?_, ?_⟩))
      · simp [upd, cnt, List.filter_append, q]
      · simp [upd, h11]
    · simp only [decide_eq_false_iff_not] at q
      refine .nil (.nil ⟨rfl, ?_, ?_⟩)
      · simp [upd, cnt, List.filter_append, q, h13]
      · simp [upd, h11]
  · intro σ ⟨h13, _⟩
    exact Ex.ret (by simp [ev_e1, ev_e2, ev_e3, ev_e4, ev_e5, ev_e6, ev_e7, ev_e8, ev_e9, ev_e10, ev_e11, ev_e12, ev_e13, ev_e14, ev_e15, ev_e16, ev_e17, ev_e18, ev_e19, ev_e20, ev_e21, ev_e22, ev_e23, ev_e24, ev_e25, ev_e26, ev_e27, ev_e28, St.full, h13]) rfl
end
end L01
end Mine
end

section
namespace Mine
open PySem PySem.W PyProof.Rows
namespace L01
noncomputable def encNN := encL encN
noncomputable abbrev encR := encL encNN
theorem enum_map {α : Type} (e : α → D) : ∀ (xs : List α) (i : Nat), enumL (i : Int) (xs.map e) = (xs.zipIdx i).map fun x => .tuple [.int x.2, e x.1]
  | [], _ => rfl
  | x :: xs, i => by
    have := enum_map e xs (i + 1)
    rw [List.map_cons, enumL, List.zipIdx_cons, List.map_cons, ← this]; rfl
theorem evIt_enum {tab : Nat → Str} {G : Or} {a : C} {pf p : Pos} {ρ : Vw} {α : Type} {e : α → D} {xs : List α} (h : ev tab G a ρ = some (.list (xs.map e))) (hl : xs.length ≤ lim) : evIt tab G (.enum a pf p) ρ = some (xs.zipIdx.map fun x => .tuple [.int x.2, e x.1]) := by
  simp only [evIt_e1, evIt_e2, evIt_e3, evIt_e4, h, Option.bind_some, enumD, List.length_map, if_pos hl]
  exact congrArg some (enum_map e xs 0)

/-- the four groups' figures -/
noncomputable def fig (ns : List Int) (k s : Nat) : List Nat := let d := (s : Int) + drawn ns k 12 4; [(d % 4).toNat, (d / 4 % 4).toNat, (d / 16 % 4).toNat]
noncomputable def figsF (ns : List Int) : List (List Nat) := [fig ns 0 4, fig ns 1 41, fig ns 2 35, fig ns 3 6]
theorem max_mod (x : Int) : max (x % 4) 0 = x % 4 := by omega
theorem G_figures {n : Nat} (hn : 1 ≤ n) (ns : List Int) (hl : ns.length ≤ 63) : Gfix tab defs n 22 [.list (ns.map .raw)] = some (.list ((figsF ns).map encNN.e)) := by
  obtain ⟨n, rfl⟩ : ∃ m, n = m + 1 := ⟨n - 1, by omega⟩
  rw [G_step (i := 22) rfl]
  refine evDef_of rfl ?_
  unfold b_law_figures
  refine Ex.own (ds := []) rfl (lim_small (by decide)) ?_
  refine Ex.loopE (e := fun x : Nat × Nat => .tuple [.int x.2, .int x.1]) (fun pre σ => σ 16 = some (false, .list (ns.map .raw)) ∧ σ 18 = some (true, .list ((pre.map fun x => fig ns x.2 x.1).map encNN.e))) ([4, 41, 35, 6].zipIdx) rfl ⟨rfl, rfl⟩ ?_ ?_
  · intro pre x post σ hx ⟨h16, h18⟩
    obtain ⟨s, k⟩ := x
    refine ⟨upd (upd σ 19 (false, .int k)) 20 (false, .int s), rfl, ?_⟩
    have hs : (sliceD (D.list (ns.map D.raw)) (D.int k) (D.int 12) (D.int 4)).bind sumD = some (.raw (drawn ns k 12 4)) := slice_sum ns k 12 4 (by decide) hl
    have hp : pre.length < 4 := pre_lt hx
    refine Ex.assign (d := .int ((s : Int) + drawn ns k 12 4)) ?_ ?_
    · simp [ev_e1, ev_e2, ev_e3, ev_e4, ev_e5, ev_e6, ev_e7, ev_e8, ev_e9, ev_e10, ev_e11, ev_e12, ev_e13, ev_e14, ev_e15, ev_e16, ev_e17, ev_e18, ev_e19, ev_e20, ev_e21, ev_e22, ev_e23, ev_e24, ev_e25, ev_e26, ev_e27, ev_e28, evs_e1, evs_e2, evIt_e1, evIt_e2, evIt_e3, evIt_e4, evIfs_e1, evIfs_e2, bindT, bindAll, bindS, bindS.go, St.frozen, St.full, upd, argSt, argGo, kfs, boolOf, binD, binI, addD, numsD, D.num, cmpD, itemD, mkList_small, itemsD_small, Option.bind_some, Option.map_some, h16]
      rw [hs]
      simp
    · refine Ex.append (d := encNN.e (fig ns k s)) ?_ (by simp [upd, h18]; rfl) (by simp; exact lim_small (by omega)) (.nil ⟨rfl, by simp [upd, h16], by simp [upd]⟩)
      simp [ev_e1, ev_e2, ev_e3, ev_e4, ev_e5, ev_e6, ev_e7, ev_e8, ev_e9, ev_e10, ev_e11, ev_e12, ev_e13, ev_e14, ev_e15, ev_e16, ev_e17, ev_e18, ev_e19, ev_e20, ev_e21, ev_e22, ev_e23, ev_e24, ev_e25, ev_e26, ev_e27, ev_e28, evs_e1, evs_e2, evIt_e1, evIt_e2, evIt_e3, evIt_e4, evIfs_e1, evIfs_e2, bindT, bindAll, bindS, bindS.go, St.frozen, St.full, upd, argSt, argGo, kfs, boolOf, binD, binI, addD, numsD, D.num, cmpD, itemD, mkList_small, itemsD_small, Option.bind_some, Option.map_some, encNN, encL, encN, fig, max_mod]
  · intro σ ⟨_, h18⟩
    exact Ex.ret (full_of h18) rfl
noncomputable def Small (F : List (List Nat)) : Prop := ∀ r ∈ F, ∃ a b c, r = [a, b, c] ∧ a < 4 ∧ b < 4 ∧ c < 4
theorem figs_small (ns : List Int) : (figsF ns).length = 4 ∧ Small (figsF ns) := by
  have key : ∀ x : Int, (x % 4).toNat < 4 := fun x => by omega
  refine ⟨rfl, fun r hr => ?_⟩
  have : ∀ k s, ∃ a b c, fig ns k s = [a, b, c] ∧ a < 4 ∧ b < 4 ∧ c < 4 := fun k s => ⟨_, _, _, rfl, key _, key _, key _⟩
  simp only [figsF, List.mem_cons, List.not_mem_nil, or_false] at hr
  rcases hr with rfl | rfl | rfl | rfl <;> exact this _ _

/-! masks -/
noncomputable def mask (row : List Nat) : Nat := row.foldl (fun m q => m ||| 2 ^ q) 0
noncomputable def masksF (F : List (List Nat)) : List Nat := F.map mask
theorem shl_nat {a : Nat} (h : a < 4) : binD .shl (.int 1) (encN.e a) = some (encN.e (2 ^ a)) := by
  have h1 : 0 ≤ (1 : Int) ∧ (1 : Int) < 1000000 ∧ 0 ≤ (a : Int) ∧ (a : Int) ≤ 1000 := by omega
  simp only [binD, numsD, D.num, encN, binI, if_pos h1, Option.map_some, Int.toNat_natCast, Int.one_mul]
  rfl
theorem bor_nat (x y : Nat) : binD .bor (encN.e x) (encN.e y) = some (encN.e (x ||| y)) := by
  simp only [binD, numsD, D.num, encN, binI, if_pos (And.intro (Int.natCast_nonneg x) (Int.natCast_nonneg y)), Option.map_some, Int.toNat_natCast]
theorem band_nat (x y : Nat) : binD .band (encN.e x) (encN.e y) = some (encN.e (x &&& y)) := by
  simp only [binD, numsD, D.num, encN, binI, if_pos (And.intro (Int.natCast_nonneg x) (Int.natCast_nonneg y)), Option.map_some, Int.toNat_natCast]
theorem G_masks {n : Nat} (hn : 1 ≤ n) (F : List (List Nat)) (hF : F.length = 4) (hs : Small F) : Gfix tab defs n 24 [.list (F.map encNN.e)] = some (encNN.e (masksF F)) := by
  obtain ⟨n, rfl⟩ : ∃ m, n = m + 1 := ⟨n - 1, by omega⟩
  rw [G_step (i := 24) rfl]
  refine evDef_of rfl ?_
  unfold b_law_masks
  refine Ex.ret (ev_comp_all (e := encNN.e) (e' := encN.e) mask (evIt_of (ev_var rfl) (by rw [List.length_map, hF]; exact lim_small (by decide))) (by rw [hF]; exact lim_small (by decide)) fun r hr => ?_) rfl
  obtain ⟨a, b, c, rfl, ha, hb, hc⟩ := hs r hr
  refine ⟨_, rfl, ?_⟩
  rw [ev_bin (ev_bin (ev_bin (x := .int 1) (y := encN.e a) rfl rfl (shl_nat ha)) (ev_bin (x := .int 1) (y := encN.e b) rfl rfl (shl_nat hb)) (bor_nat _ _)) (ev_bin (x := .int 1) (y := encN.e c) rfl rfl (shl_nat hc)) (bor_nat _ _)]
  simp [mask]

/-! the groups that are due -/
noncomputable def lowerF (M : List Nat) (k : Nat) : List Nat := (List.range 4).filter fun j => decide (M.getD j 0 &&& M.getD k 0 = M.getD j 0) && (!decide (M.getD j 0 = M.getD k 0) || decide (j < k))
noncomputable def unlikeF (row : List Nat) : List (List Nat) := ((row.zipIdx).filter fun x => !decide (x.1 ∈ row.take x.2)).map fun x => [x.1]
noncomputable def dueF (F : List (List Nat)) : List (List (List Nat)) := ((List.range 4).filter fun k => decide (lowerF (masksF F) k = [])).map fun k => unlikeF (F.getD k [])
theorem nat_item {M : List Nat} {k : Nat} (h : k < M.length) (hl : M.length ≤ lim) : itemD (encNN.e M) (encN.e k) = some (encN.e (M.getD k 0)) := itemD_get (get_map h) (by rw [List.length_map]; exact hl)
theorem nn_item {F : List (List Nat)} {k : Nat} (h : k < F.length) (hl : F.length ≤ lim) : itemD (.list (F.map encNN.e)) (encN.e k) = some (encNN.e (F.getD k [])) := itemD_get (get_map h) (by rw [List.length_map]; exact hl)
theorem enum_len {α : Type} (xs : List α) : xs.zipIdx.length = xs.length := by simp
theorem ev_slice_to {tab : Nat → Str} {G : Or} {a h : C} {ps p : Pos} {ρ : Vw} {α : Type} {e : α → D} {xs : List α} {k : Nat} (ha : ev tab G a ρ = some (.list (xs.map e))) (hh : ev tab G h ρ = some (encN.e k)) (hl : xs.length ≤ lim) :
    ev tab G (.slice a .nothing h .nothing ps p) ρ = some (.list ((xs.take k).map e)) := by
  simp only [ev_e1, ev_e2, ev_e3, ev_e4, ev_e5, ev_e6, ev_e7, ev_e8, ev_e9, ev_e10, ev_e11, ev_e12, ev_e13, ev_e14, ev_e15, ev_e16, ev_e17, ev_e18, ev_e19, ev_e20, ev_e21, ev_e22, ev_e23, ev_e24, ev_e25, ev_e26, ev_e27, ev_e28, ha, hh, Option.bind_some, sliceD, D.part, encN, sliceL, List.length_map, if_pos hl, if_pos (Int.natCast_nonneg k), Int.toNat_natCast, Option.map_some, List.map_take]
theorem ev_slice_from {tab : Nat → Str} {G : Or} {a h : C} {ps p : Pos} {ρ : Vw} {α : Type} {e : α → D} {xs : List α} {k : Nat} (ha : ev tab G a ρ = some (.list (xs.map e))) (hh : ev tab G h ρ = some (encN.e k)) (hl : xs.length ≤ lim) :
    ev tab G (.slice a h .nothing .nothing ps p) ρ = some (.list ((xs.drop k).map e)) := by
  simp only [ev_e1, ev_e2, ev_e3, ev_e4, ev_e5, ev_e6, ev_e7, ev_e8, ev_e9, ev_e10, ev_e11, ev_e12, ev_e13, ev_e14, ev_e15, ev_e16, ev_e17, ev_e18, ev_e19, ev_e20, ev_e21, ev_e22, ev_e23, ev_e24, ev_e25, ev_e26, ev_e27, ev_e28, ha, hh, Option.bind_some, sliceD, D.part, encN, sliceL, List.length_map, if_pos hl, if_pos (Int.natCast_nonneg k), Int.toNat_natCast, Option.map_some, List.map_drop]
theorem ev_single {tab : Nat → Str} {G : Or} {i : Nat} {p q : Pos} {ρ : Vw} {x : Nat} (h : ρ i = some (encN.e x)) : ev tab G (.list (.cons (.var i p) .nil) q) ρ = some (encNN.e [x]) := by
  simp only [ev, evs, h, Option.bind_some, Option.map_some, mkList_small (ds := [encN.e x]) (by simp)]; rfl
theorem G_due {n : Nat} (hn : 2 ≤ n) (F : List (List Nat)) (hF : F.length = 4) (hs : Small F) : Gfix tab defs n 31 [.list (F.map encNN.e)] = some (.list ((dueF F).map encR.e)) := by
  obtain ⟨n, rfl⟩ : ∃ m, n = m + 1 := ⟨n - 1, by omega⟩
  rw [G_step (i := 31) rfl]
  refine evDef_of rfl ?_
  unfold b_law_due
  have l4 : 4 ≤ lim := lim_small (by decide)
  have hM : (masksF F).length = 4 := by rw [masksF, List.length_map, hF]
  refine Ex.assign (ev_call1 (ev_var rfl) (G_masks (by omega) F hF hs)) ?_
  refine Ex.own (ds := []) rfl (lim_small (by decide)) ?_
  refine Ex.loopE (e := encN.e) (fun pre σ => σ 18 = some (false, .list (F.map encNN.e)) ∧ σ 30 = some (false, encNN.e (masksF F)) ∧ σ 25 = some (true, .list (((pre.filter fun k => decide (lowerF (masksF F) k = [])).map fun k => unlikeF (F.getD k [])).map encR.e))) (List.range 4) (evIt_range (n := 4) rfl (by decide)) ⟨rfl, rfl, rfl⟩ ?_ ?_
  · intro pre k post σ hx ⟨h18, h30, h25⟩
    refine ⟨_, rfl, ?_⟩
    have hk : k < 4 := List.mem_range.mp (mem_mid hx)
    have hp : pre.length < 4 := pre_lt hx
    have hrow : ∃ a b c, F.getD k [] = [a, b, c] ∧ a < 4 ∧ b < 4 ∧ c < 4 := hs _ (getD_mem (by omega))
    have hrl : (F.getD k []).length ≤ lim := by obtain ⟨a, b, c, e, _⟩ := hrow; rw [e]; exact lim_small (by simp)
    have S18 : upd σ 19 (false, encN.e k) 18 = some (false, .list (F.map encNN.e)) := h18
    have S30 : upd σ 19 (false, encN.e k) 30 = some (false, encNN.e (masksF F)) := h30
    have S25 : upd σ 19 (false, encN.e k) 25 = _ := h25
    have S19 : upd σ 19 (false, encN.e k) 19 = some (false, encN.e k) := rfl
    generalize upd σ 19 (false, encN.e k) = S at S18 S30 S25 S19 ⊢
    refine Ex.assign (d := encNN.e (lowerF (masksF F) k)) ?_ ?_
    · have h := ev_comp (tab := tab) (G := Gfix tab defs n) (e := encN.e) (e' := encN.e) (elt := .var 29 ⟨40, 17, 40, 18⟩) (t := .one 29 ⟨40, 23, 40, 24⟩) (it := .range1 (.int (4) ⟨40, 34, 40, 35⟩) ⟨40, 28, 40, 33⟩ ⟨40, 28, 40, 36⟩)
        (ifs := .cons (.and2 (.cmp .eq (.bin .band (.item (.var 30 ⟨40, 40, 40, 45⟩) (.var 29 ⟨40, 46, 40, 47⟩) ⟨40, 40, 40, 48⟩) (.item (.var 30 ⟨40, 51, 40, 56⟩) (.var 19 ⟨40, 57, 40, 58⟩) ⟨40, 51, 40, 59⟩) ⟨40, 40, 40, 59⟩) (.item (.var 30 ⟨40, 63, 40, 68⟩) (.var 29 ⟨40, 69, 40, 70⟩) ⟨40, 63, 40, 71⟩) ⟨40, 40, 40, 71⟩) (.or2 (.cmp .ne (.item (.var 30 ⟨40, 77, 40, 82⟩) (.var 29 ⟨40, 83, 40, 84⟩) ⟨40, 77, 40, 85⟩) (.item (.var 30 ⟨40, 89, 40, 94⟩) (.var 19 ⟨40, 95, 40, 96⟩) ⟨40, 89, 40, 97⟩) ⟨40, 77, 40, 97⟩) (.cmp .lt (.var 29 ⟨40, 101, 40, 102⟩) (.var 19 ⟨40, 105, 40, 106⟩) ⟨40, 101, 40, 106⟩) ⟨40, 77, 40, 106⟩) ⟨40, 40, 40, 107⟩) .nil)
        (sc := sc2) (p := ⟨40, 16, 40, 108⟩) (ρ := St.frozen S) (fun j => decide ((masksF F).getD j 0 &&& (masksF F).getD k 0 = (masksF F).getD j 0) && (!decide ((masksF F).getD j 0 = (masksF F).getD k 0) || decide (j < k))) (fun j => j) (xs := List.range 4) (evIt_range (n := 4) rfl (by decide)) (lim_small (by decide)) fun j hj => by
          have hj' : j < 4 := List.mem_range.mp hj
          have v30 : upd (keepFree tab sc2 (St.frozen S)) 29 (encN.e j) 30 = some (encNN.e (masksF F)) := by simp [upd, kfs, frozen_of S30]
          have v19 : upd (keepFree tab sc2 (St.frozen S)) 29 (encN.e j) 19 = some (encN.e k) := by simp [upd, kfs, frozen_of S19]
          have v29 : upd (keepFree tab sc2 (St.frozen S)) 29 (encN.e j) 29 = some (encN.e j) := rfl
          have ij := nat_item (M := masksF F) (k := j) (by omega) (by rw [hM]; exact l4)
          have ik := nat_item (M := masksF F) (k := k) (by omega) (by rw [hM]; exact l4)
          exact ⟨_, rfl, evIfs_one (ev_and2 (ev_cmp (ev_bin (ev_item (ev_var v30) (ev_var v29) ij) (ev_item (ev_var v30) (ev_var v19) ik) (band_nat _ _)) (ev_item (ev_var v30) (ev_var v29) ij) (cmp_eq encN (by decide) _ _)) fun _ => ev_or2 (ev_cmp (ev_item (ev_var v30) (ev_var v29) ij) (ev_item (ev_var v30) (ev_var v19) ik) (cmp_ne encN (by decide) _ _)) fun _ => ev_cmp (ev_var v29) (ev_var v19) (lt_nat _ _)), fun _ => rfl⟩
      rw [List.map_id'] at h
      exact h
    have T18 : upd S 26 (false, encNN.e (lowerF (masksF F) k)) 18 = some (false, .list (F.map encNN.e)) := S18
    have T30 : upd S 26 (false, encNN.e (lowerF (masksF F) k)) 30 = some (false, encNN.e (masksF F)) := S30
    have T25 : upd S 26 (false, encNN.e (lowerF (masksF F) k)) 25 = _ := S25
    have T19 : upd S 26 (false, encNN.e (lowerF (masksF F) k)) 19 = some (false, encN.e k) := S19
    have T26 : upd S 26 (false, encNN.e (lowerF (masksF F) k)) 26 = some (false, encNN.e (lowerF (masksF F) k)) := rfl
    generalize upd S 26 (false, encNN.e (lowerF (masksF F) k)) = T at T18 T30 T25 T19 T26 ⊢
    refine Ex.ite (decide (lowerF (masksF F) k = [])) (ev_cmp (ev_var (full_of T26)) (y := .list []) rfl (eq_nil encN (by decide) _)) (fun q => ?_) fun q => ?_
    · refine Ex.append (d := encR.e (unlikeF (F.getD k []))) ?_ T25 ?_ (.nil (.nil ⟨rfl, T18, T30, ?_⟩))
      · have hit : itemD (.list (F.map encNN.e)) (encN.e k) = some (encNN.e (F.getD k [])) := nn_item (by omega) (by rw [hF]; exact l4)
        refine ev_comp (e := fun x : Nat × Nat => .tuple [.int x.2, encN.e x.1]) (e' := encNN.e) (fun x => !decide (x.1 ∈ (F.getD k []).take x.2)) (fun x => [x.1]) (xs := (F.getD k []).zipIdx) (evIt_enum (e := encN.e) (ev_item (ev_var (frozen_of T18)) (ev_var (frozen_of T19)) hit) hrl) (by rw [enum_len]; exact hrl) fun x hx => ?_
        have v18 : upd (upd (keepFree tab sc1 (St.frozen T)) 28 (encN.e x.2)) 27 (encN.e x.1) 18 = some (.list (F.map encNN.e)) := by simp [upd, kfs, frozen_of T18]
        have v19 : upd (upd (keepFree tab sc1 (St.frozen T)) 28 (encN.e x.2)) 27 (encN.e x.1) 19 = some (encN.e k) := by simp [upd, kfs, frozen_of T19]
        exact ⟨upd (upd (keepFree tab sc1 (St.frozen T)) 28 (encN.e x.2)) 27 (encN.e x.1), rfl, evIfs_one (ev_cmp (x := encN.e x.1) (ev_var rfl) (ev_slice_to (e := encN.e) (k := x.2) (ev_item (ev_var v18) (ev_var v19) hit) (ev_var rfl) hrl) (cmp_notin encN (by decide) _ _)), fun _ => ev_single rfl⟩
      · rw [List.length_map, List.length_map]; exact lim_small (Nat.le_trans (List.length_filter_le ..) (by omega))
      · rw [List.filter_append, List.filter_cons_of_pos (by exact q)]; simp [upd]
    · refine .nil (.nil ⟨rfl, T18, T30, ?_⟩)
      rw [List.filter_append, List.filter_cons_of_neg (by simpa using q)]; simpa using T25
  · intro σ ⟨_, _, h25⟩
    exact Ex.ret (full_of h25) rfl

theorem beq_tt (b : Bool) : (b == true) = b := by cases b <;> rfl
/-! does one row lie in another -/
noncomputable def sing (row : List Nat) : List (List Nat) := row.map fun q => [q]
noncomputable def rowsF (F : List (List Nat)) : List (List (List Nat)) := F.map sing
noncomputable def subF (R : List (List (List Nat))) (j k : Nat) : Bool := if j < k then same (R.getD j [] ++ R.getD k []) (R.getD k []) else same (R.getD k []) (R.getD j [] ++ R.getD k [])
/-- four rows of at most three points each -/
noncomputable def Rows (R : List (List (List Nat))) : Prop := R.length = 4 ∧ ∀ r ∈ R, r.length ≤ 3
theorem rr_item {R : List (List (List Nat))} {k : Nat} (h : k < R.length) (hl : R.length ≤ lim) : itemD (.list (R.map encR.e)) (encN.e k) = some (encR.e (R.getD k [])) := itemD_get (get_map h) (by rw [List.length_map]; exact hl)
theorem G_lies_in {n : Nat} (hn : 3 ≤ n) {R : List (List (List Nat))} (hR : Rows R) {j k : Nat} (hj : j < 4) (hk : k < 4) : Gfix tab defs n 41 [.list (R.map encR.e), encN.e j, encN.e k] = some (.bool (subF R j k)) := by
  obtain ⟨n, rfl⟩ : ∃ m, n = m + 1 := ⟨n - 1, by omega⟩
  rw [G_step (i := 41) rfl]
  refine evDef_of rfl ?_
  unfold b_law_lies_in
  have l4 : R.length ≤ lim := by rw [hR.1]; exact lim_small (by decide)
  have ij := rr_item (R := R) (k := j) (by rw [hR.1]; exact hj) l4
  have ik := rr_item (R := R) (k := k) (by rw [hR.1]; exact hk) l4
  have lj : (R.getD j []).length ≤ 3 := hR.2 _ (getD_mem (by rw [hR.1]; exact hj))
  have lk : (R.getD k []).length ≤ 3 := hR.2 _ (getD_mem (by rw [hR.1]; exact hk))
  have l6 : (R.getD j [] ++ R.getD k []).length ≤ lim := by rw [List.length_append]; exact lim_small (by omega)
  have l3 : (R.getD k []).length ≤ lim := lim_small (by omega)
  refine Ex.assign (d := encR.e (R.getD j [] ++ R.getD k [])) (ev_bin (ev_item (ev_var rfl) (ev_var rfl) ij) (ev_item (ev_var rfl) (ev_var rfl) ik) ?_) ?_
  · refine (add_list _ _ (by rw [List.length_map, List.length_map]; exact lim_small (by omega))).trans ?_
    rw [← List.map_append]; rfl
  refine Ex.ite (decide (j < k)) (ev_cmp (x := encN.e j) (y := encN.e k) (ev_var rfl) (ev_var rfl) (lt_nat _ _)) (fun q => ?_) fun q => ?_
  · have q' : j < k := of_decide_eq_true q
    refine Ex.ret (d := .bool (subF R j k)) (Eq.trans (ev_cmp (ev_call2 (x := .list ((R.getD j [] ++ R.getD k []).map encNN.e)) (ev_var rfl) (ev_item (ev_var rfl) (ev_var rfl) ik) (G_compare encNN (by omega) (by decide) _ _ l6 l3)) (y := .bool true) rfl (is_bool _ _)) ?_) rfl
    unfold subF; rw [if_pos q', beq_tt]
  · have q' : ¬ j < k := of_decide_eq_false q
    refine .nil ?_
    refine Ex.ret (d := .bool (subF R j k)) (Eq.trans (ev_cmp (ev_call2 (y := .list ((R.getD j [] ++ R.getD k []).map encNN.e)) (ev_item (ev_var rfl) (ev_var rfl) ik) (ev_var rfl) (G_compare encNN (by omega) (by decide) _ _ l3 l6)) (y := .bool true) rfl (is_bool _ _)) ?_) rfl
    unfold subF; rw [if_neg q', beq_tt]

/-! the least groups -/
noncomputable def inWay (R : List (List (List Nat))) (k j : Nat) : Bool := !decide (j = k) && subF R j k && (decide (j < k) || !subF R k j)
noncomputable def keptF (R : List (List (List Nat))) (k : Nat) (js : List Nat) : Bool := !js.any (inWay R k)
noncomputable def leastF (R : List (List (List Nat))) : List (List (List Nat)) := ((List.range 4).filter fun k => keptF R k (List.range 4)).map fun k => dedup (R.getD k [])
theorem ev_and3 {tab : Nat → Str} {G : Or} {a b c : C} {p : Pos} {ρ : Vw} {x y z : Bool} (ha : ev tab G a ρ = some (.bool x)) (hb : x = true → ev tab G b ρ = some (.bool y)) (hc : x = true → y = true → ev tab G c ρ = some (.bool z)) : ev tab G (.and3 a b c p) ρ = some (.bool (x && y && z)) := by
  cases x with
  | false => simp [ev_e1, ev_e2, ev_e3, ev_e4, ev_e5, ev_e6, ev_e7, ev_e8, ev_e9, ev_e10, ev_e11, ev_e12, ev_e13, ev_e14, ev_e15, ev_e16, ev_e17, ev_e18, ev_e19, ev_e20, ev_e21, ev_e22, ev_e23, ev_e24, ev_e25, ev_e26, ev_e27, ev_e28, ha, boolOf]
  | true =>
    cases y with
    | false => simp [ev_e1, ev_e2, ev_e3, ev_e4, ev_e5, ev_e6, ev_e7, ev_e8, ev_e9, ev_e10, ev_e11, ev_e12, ev_e13, ev_e14, ev_e15, ev_e16, ev_e17, ev_e18, ev_e19, ev_e20, ev_e21, ev_e22, ev_e23, ev_e24, ev_e25, ev_e26, ev_e27, ev_e28, ha, boolOf, hb rfl]
    | true => simp [ev_e1, ev_e2, ev_e3, ev_e4, ev_e5, ev_e6, ev_e7, ev_e8, ev_e9, ev_e10, ev_e11, ev_e12, ev_e13, ev_e14, ev_e15, ev_e16, ev_e17, ev_e18, ev_e19, ev_e20, ev_e21, ev_e22, ev_e23, ev_e24, ev_e25, ev_e26, ev_e27, ev_e28, ha, boolOf, hb rfl, hc rfl rfl]
theorem ev_not {tab : Nat → Str} {G : Or} {a : C} {p : Pos} {ρ : Vw} {x : Bool} (ha : ev tab G a ρ = some (.bool x)) : ev tab G (.not a p) ρ = some (.bool (!x)) := by
  simp only [ev_e1, ev_e2, ev_e3, ev_e4, ev_e5, ev_e6, ev_e7, ev_e8, ev_e9, ev_e10, ev_e11, ev_e12, ev_e13, ev_e14, ev_e15, ev_e16, ev_e17, ev_e18, ev_e19, ev_e20, ev_e21, ev_e22, ev_e23, ev_e24, ev_e25, ev_e26, ev_e27, ev_e28, ha, boolOf, Option.map_some]
theorem G_least {n : Nat} (hn : 4 ≤ n) {R : List (List (List Nat))} (hR : Rows R) : Gfix tab defs n 44 [.list (R.map encR.e)] = some (.list ((leastF R).map encR.e)) := by
  obtain ⟨n, rfl⟩ : ∃ m, n = m + 1 := ⟨n - 1, by omega⟩
  rw [G_step (i := 44) rfl]
  refine evDef_of rfl ?_
  unfold b_law_least
  have l4 : R.length ≤ lim := by rw [hR.1]; exact lim_small (by decide)
  refine Ex.own (ds := []) rfl (lim_small (by decide)) ?_
  refine Ex.loopE (e := encN.e) (fun pre σ => σ 39 = some (false, .list (R.map encR.e)) ∧ σ 42 = some (true, .list (((pre.filter fun k => keptF R k (List.range 4)).map fun k => dedup (R.getD k [])).map encR.e))) (List.range 4) (evIt_range (n := 4) rfl (by decide)) ⟨rfl, rfl⟩ ?_ ?_
  · intro pre k post σ hx ⟨h39, h42⟩
    refine ⟨_, rfl, ?_⟩
    have hk : k < 4 := List.mem_range.mp (mem_mid hx)
    have hp : pre.length < 4 := pre_lt hx
    refine Ex.assign (d := .bool true) rfl ?_
    refine Ex.loopE (e := encN.e) (fun pre₂ σ => σ 39 = some (false, .list (R.map encR.e)) ∧ σ 42 = some (true, .list (((pre.filter fun k => keptF R k (List.range 4)).map fun k => dedup (R.getD k [])).map encR.e)) ∧ σ 19 = some (false, encN.e k) ∧ σ 43 = some (false, .bool (keptF R k pre₂))) (List.range 4) (evIt_range (n := 4) rfl (by decide)) ⟨h39, h42, rfl, rfl⟩ ?_ ?_
    · intro pre₂ j post₂ σ hx₂ ⟨h39, h42, h19, h43⟩
      refine ⟨_, rfl, ?_⟩
      have hj : j < 4 := List.mem_range.mp (mem_mid hx₂)
      have s39 : upd σ 29 (false, encN.e j) 39 = some (false, .list (R.map encR.e)) := h39
      have s42 : upd σ 29 (false, encN.e j) 42 = _ := h42
      have s19 : upd σ 29 (false, encN.e j) 19 = some (false, encN.e k) := h19
      have s43 : upd σ 29 (false, encN.e j) 43 = some (false, .bool (keptF R k pre₂)) := h43
      have s29 : upd σ 29 (false, encN.e j) 29 = some (false, encN.e j) := rfl
      generalize upd σ 29 (false, encN.e j) = S at s39 s42 s19 s43 s29 ⊢
      have hkk : keptF R k (pre₂ ++ [j]) = (keptF R k pre₂ && !inWay R k j) := by simp [keptF]
      refine Ex.ite (inWay R k j) (ev_and3 (ev_cmp (ev_var (full_of s29)) (ev_var (full_of s19)) (cmp_ne encN (by decide) _ _)) (fun _ => ev_call3 (ev_var (full_of s39)) (ev_var (full_of s29)) (ev_var (full_of s19)) (G_lies_in (by omega) hR hj hk)) fun _ _ => ev_or2 (ev_cmp (ev_var (full_of s29)) (ev_var (full_of s19)) (lt_nat _ _)) fun _ => ev_not (ev_call3 (ev_var (full_of s39)) (ev_var (full_of s19)) (ev_var (full_of s29)) (G_lies_in (by omega) hR hk hj))) (fun q => ?_) fun q => ?_
      · refine Ex.assign (d := .bool false) rfl (.nil (.nil ⟨rfl, s39, s42, s19, ?_⟩))
        rw [hkk, q]; simp [upd]
      · refine .nil (.nil ⟨rfl, s39, s42, s19, ?_⟩)
        rw [hkk, q]; simpa using s43
    · intro σ ⟨h39, h42, h19, h43⟩
      refine Ex.ite (keptF R k (List.range 4)) (ev_var (full_of h43)) (fun q => ?_) fun q => ?_
      · refine Ex.append (d := encR.e (dedup (R.getD k []))) (ev_call1 (ev_item (ev_var (frozen_of h39)) (ev_var (frozen_of h19)) (rr_item (by rw [hR.1]; exact hk) l4)) (G_dedup encNN (by omega) (by decide) _ (lim_small (Nat.le_trans (hR.2 _ (getD_mem (by rw [hR.1]; exact hk))) (by decide))))) h42 ?_ (.nil (.nil ⟨rfl, h39, ?_⟩))
        · rw [List.length_map, List.length_map]; exact lim_small (Nat.le_trans (List.length_filter_le ..) (by omega))
        · rw [List.filter_append, List.filter_cons_of_pos (by exact q)]; simp [upd]
      · refine .nil (.nil ⟨rfl, h39, ?_⟩)
        rw [List.filter_append, List.filter_cons_of_neg (by simp [q])]; simpa using h42
  · intro σ ⟨_, h42⟩
    exact Ex.ret (full_of h42) rfl
end L01
end Mine
end

section
namespace Mine
open PySem PySem.W PyProof.Rows
theorem flatMap_le {α β : Type} {f : α → List β} {k : Nat} : ∀ (xs : List α), (∀ x ∈ xs, (f x).length ≤ k) → (xs.flatMap f).length ≤ xs.length * k
  | [], _ => by simp
  | x :: xs, h => by
    have h1 := h x (List.mem_cons_self ..)
    have h2 := flatMap_le xs fun y hy => h y (List.mem_cons_of_mem _ hy)
    rw [List.flatMap_cons, List.length_append, List.length_cons, Nat.succ_mul, Nat.add_comm]
    exact Nat.add_le_add h2 h1
theorem frozen_own {σ : St} {i : Nat} {d : D} (h : σ i = some (true, d)) : St.frozen σ i = none := by simp only [St.frozen, h]
theorem filter_tt {α : Type} (l : List α) : l.filter (fun _ => true) = l := List.filter_eq_self.mpr fun _ _ => rfl
theorem evIt_range2 {tab : Nat → Str} {G : Or} {a b : C} {pf p : Pos} {ρ : Vw} {m n : Nat} (ha : ev tab G a ρ = some (encN.e m)) (hb : ev tab G b ρ = some (encN.e n)) (hm : m ≤ 100) (hn : n ≤ 100) : evIt tab G (.range2 a b pf p) ρ = some (((List.range (n - m)).map fun k => m + k).map encN.e) := by
  have h2 : (-lim : Int) ≤ m ∧ (m : Int) ≤ lim ∧ (-lim : Int) ≤ n ∧ (n : Int) ≤ lim := by
    have : (lim : Int) = 1000000 := rfl
    omega
  have e : ((n : Int) - m).toNat = n - m := by omega
  simp only [evIt_e1, evIt_e2, evIt_e3, evIt_e4, ha, hb, Option.bind_some, range2D, D.num, encN, range2I, if_pos h2, rangeL_eq, e, List.map_map]
  congr 1
namespace L01

theorem shl_nat' {a : Nat} (h : a ≤ 100) : binD .shl (.int 1) (encN.e a) = some (encN.e (2 ^ a)) := by
  have h1 : 0 ≤ (1 : Int) ∧ (1 : Int) < 1000000 ∧ 0 ≤ (a : Int) ∧ (a : Int) ≤ 1000 := by omega
  simp only [binD, numsD, D.num, encN, binI, if_pos h1, Option.map_some, Int.toNat_natCast, Int.one_mul]
  rfl
theorem shr_nat (a b : Nat) : binD .shr (encN.e a) (encN.e b) = some (encN.e (a / 2 ^ b)) := by
  simp only [binD, numsD, D.num, encN, binI, if_pos (Int.natCast_nonneg b), Option.map_some, Int.toNat_natCast]
  rfl
theorem mod2_nat (a : Nat) : binD .mod (encN.e a) (.int 2) = some (encN.e (a % 2)) := by
  simp only [binD, numsD, D.num, encN, binI, if_pos (show (0 : Int) < 2 by decide), Option.map_some]
  rfl
theorem add_int (x y : Int) : binD .add (encI.e x) (encI.e y) = some (encI.e (x + y)) := by simp [binD, addD, numsD, encI, D.num]

/-! shares -/
noncomputable def bump (sh : List Int) (p : Nat) (v : Int) : List Int := sh.set p (sh.getD p 0 + v)
theorem bump_length (sh : List Int) (p : Nat) (v : Int) : (bump sh p v).length = sh.length := List.length_set ..
noncomputable def encII := encL encI
theorem int_item {M : List Int} {k : Nat} (h : k < M.length) (hl : M.length ≤ lim) : itemD (encII.e M) (encN.e k) = some (encI.e (M.getD k 0)) := itemD_get (get_map h) (by rw [List.length_map]; exact hl)
/-- shares[p] = shares[p] + v -/
theorem ex_bump {G : Or} {e : C} {p1 p2 p3 p4 p5 p6 p7 p8 : Pos} {r : Ss} {σ : St} {sh : List Int} {p : Nat} {v : Int} {Q : St → Fl → Prop} (hsh : σ 32 = some (true, encII.e sh)) (hl : sh.length = 4) (hp : p < 4) (h35 : σ 35 = some (false, encN.e p)) (he : ev tab G e σ.full = some (encI.e v))
    (q : Ex tab G r (upd σ 32 (true, encII.e (bump sh p v))) Q) : Ex tab G (.cons (.setitem 32 (.var 35 p1) (.bin .add (.item (.var 32 p2) (.var 35 p3) p4) e p5) p6 p7 p8) r) σ Q := by
  refine Ex.setitem (evK_full (d := encI.e (sh.getD p 0 + v)) ?_ ?_ rfl) hsh (ev_var (frozen_of h35)) (by rw [List.length_map, hl]; exact hp) (by rw [List.length_map, hl]; exact lim_small (by decide)) ?_
  · simp only [ev_e1, ev_e2, ev_e3, ev_e4, ev_e5, ev_e6, ev_e7, ev_e8, ev_e9, ev_e10, ev_e11, ev_e12, ev_e13, ev_e14, ev_e15, ev_e16, ev_e17, ev_e18, ev_e19, ev_e20, ev_e21, ev_e22, ev_e23, ev_e24, ev_e25, ev_e26, ev_e27, ev_e28, frozen_own hsh, Option.bind_none]
  · exact ev_bin (ev_item (ev_var (full_of hsh)) (ev_var (full_of h35)) (int_item (by rw [hl]; exact hp) (by rw [hl]; exact lim_small (by decide)))) he (add_int _ _)
  · rw [← List.map_set]; exact q

/-! by orders -/
noncomputable def ordersStep (os : List (List Nat)) (p : Nat) : List (List Nat) := os.flatMap fun o => (List.range (o.length + 1)).map fun k => o.take k ++ [p] ++ o.drop k
noncomputable def ordersF : List (List Nat) := (List.range 4).foldl ordersStep [[]]
theorem step_len {os : List (List Nat)} {m : Nat} (h : ∀ o ∈ os, o.length = m) (p : Nat) : (∀ o ∈ ordersStep os p, o.length = m + 1) ∧ (ordersStep os p).length ≤ os.length * (m + 1) := by
  refine ⟨fun o ho => ?_, flatMap_le os fun o ho => ?_⟩
  · obtain ⟨o', h', ho⟩ := List.mem_flatMap.mp ho
    obtain ⟨k, hk, rfl⟩ := List.mem_map.mp ho
    have := h o' h'
    have hk := List.mem_range.mp hk
    simp only [List.length_append, List.length_take, List.length_drop, List.length_singleton]
    omega
  · rw [List.length_map, List.length_range, h o ho]; exact Nat.le_refl _
noncomputable def winB (M : List Nat) (h : Nat) : Bool := M.any fun m => decide (m &&& h = m)
noncomputable def piv (M : List Nat) : Nat → List Nat → Option Nat
  | _, [] => none
  | h, p :: r => if winB M (h ||| 2 ^ p) then some p else piv M (h ||| 2 ^ p) r
noncomputable def hereF (h : Nat) (o : List Nat) : Nat := o.foldl (fun h p => h ||| 2 ^ p) h
theorem piv_append (M : List Nat) : ∀ (o r : List Nat) (h : Nat), piv M h (o ++ r) = match piv M h o with | some p => some p | none => piv M (hereF h o) r
  | [], r, h => rfl
  | p :: o, r, h => by
    simp only [List.cons_append, piv]
    split
    · rfl
    · rw [piv_append M o r]; rfl
noncomputable def orderStep (M : List Nat) (sh : List Int) (o : List Nat) : List Int := match piv M 0 o with
  | some p => bump sh p 1
  | none => sh
noncomputable def byOrders (M : List Nat) : List Int := ordersF.foldl (orderStep M) [0, 0, 0, 0]
theorem orderStep_length (M : List Nat) (sh : List Int) (o : List Nat) : (orderStep M sh o).length = sh.length := by
  unfold orderStep; split
  · exact bump_length ..
  · rfl
theorem foldOrder_length (M : List Nat) : ∀ (os : List (List Nat)) (sh : List Int), (os.foldl (orderStep M) sh).length = sh.length
  | [], _ => rfl
  | o :: os, sh => by rw [List.foldl_cons, foldOrder_length M os, orderStep_length]
theorem orders_lt : ∀ o ∈ ordersF, ∀ p ∈ o, p < 4 := by decide +kernel
theorem orders_len : ∀ o ∈ ordersF, o.length ≤ 4 := by decide +kernel

theorem G_by_orders {n : Nat} (hn : 2 ≤ n) (F : List (List Nat)) (hF : F.length = 4) (hs : Small F) : Gfix tab defs n 38 [.list (F.map encNN.e)] = some (encII.e (byOrders (masksF F))) := by
  obtain ⟨n, rfl⟩ : ∃ m, n = m + 1 := ⟨n - 1, by omega⟩
  rw [G_step (i := 38) rfl]
  refine evDef_of rfl ?_
  unfold b_law_by_orders
  have hM : (masksF F).length ≤ lim := by rw [masksF, List.length_map, hF]; exact lim_small (by decide)
  generalize hMM : masksF F = M at hM ⊢
  refine Ex.assign (d := encNN.e M) (ev_call1 (ev_var rfl) (by rw [← hMM]; exact G_masks (by omega) F hF hs)) ?_
  refine Ex.assign (d := .list ([[]].map encNN.e)) rfl ?_
  refine Ex.loopE (e := encN.e) (fun pre σ => σ 30 = some (false, encNN.e M) ∧ σ 34 = some (false, .list ((pre.foldl ordersStep [[]]).map encNN.e)) ∧ (∀ o ∈ pre.foldl ordersStep [[]], o.length = pre.length) ∧ (pre.foldl ordersStep [[]]).length ≤ 4 ^ pre.length) (List.range 4) (evIt_range (n := 4) rfl (by decide)) ⟨rfl, rfl, by simp, by decide⟩ ?_ ?_
  · intro pre p post σ hx ⟨h30, h34, hlen, hsz⟩
    refine ⟨_, rfl, ?_⟩
    have hp : pre.length < 4 := pre_lt hx
    generalize hos : pre.foldl ordersStep [[]] = os at h34 hlen hsz
    obtain ⟨k1, k2⟩ := step_len hlen p
    have hsz2 : (ordersStep os p).length ≤ 4 ^ (pre.length + 1) := by
      refine Nat.le_trans k2 ?_
      rw [Nat.pow_succ]
      exact Nat.mul_le_mul hsz hp
    have big : 4 ^ (pre.length + 1) ≤ lim := Nat.le_trans (Nat.pow_le_pow_right (by decide) hp) (by decide)
    have hsz3 : os.length ≤ lim := Nat.le_trans hsz (Nat.le_trans (Nat.pow_le_pow_right (by decide) (Nat.le_succ _)) big)
    have clean : ((os.filter fun _ => true).flatMap fun o => ((List.range (o.length + 1)).filter fun _ => true).map fun k => o.take k ++ [p] ++ o.drop k) = ordersStep os p := by
      rw [filter_tt]; unfold ordersStep; congr 1; funext o; rw [filter_tt]
    refine Ex.assign (d := .list ((ordersStep os p).map encNN.e)) ?_ (.nil ⟨rfl, h30, by rw [List.foldl_append, hos]; rfl, ?_, ?_⟩)
    · rw [← clean]
      refine ev_comp2 (e := encNN.e) (e₁ := encN.e) (e' := encNN.e) (fun _ => true) (fun o => List.range (o.length + 1)) (fun _ _ => true) (fun o k => o.take k ++ [p] ++ o.drop k) (xs := os) (evIt_of (ev_var (frozen_of h34)) (by rw [List.length_map]; exact hsz3)) (by rw [clean]; exact Nat.le_trans hsz2 big) fun o ho => ?_
      have hol : o.length = pre.length := hlen o ho
      have hol' : o.length ≤ lim := by rw [hol]; exact lim_small (by omega)
      have h1 := ev_len (tab := tab) (G := Gfix tab defs n) (a := .var 33 ⟨48, 85, 48, 90⟩) (pf := ⟨48, 81, 48, 84⟩) (p := ⟨48, 81, 48, 91⟩) (ρ := upd (keepFree tab sc4 (St.frozen (upd σ 35 (false, encN.e p)))) 33 (encNN.e o)) (ds := o.map encN.e) rfl (by rw [List.length_map]; exact hol')
      rw [List.length_map] at h1
      refine ⟨_, rfl, rfl, fun _ => ⟨evIt_range (ev_bin h1 (y := encN.e 1) rfl (add_nat _ 1)) (by omega), fun k hk => ?_⟩⟩
      refine ⟨_, rfl, rfl, fun _ => ?_⟩
      have hk' := List.mem_range.mp hk
      have hb : (o.take k).length + 1 + (o.drop k).length ≤ 100 := by simp only [List.length_take, List.length_drop]; omega
      refine ev_bin (x := .list ((o.take k ++ [p]).map encN.e)) (y := .list ((o.drop k).map encN.e)) (ev_bin (x := .list ((o.take k).map encN.e)) (y := .list ([p].map encN.e)) (ev_slice_to (e := encN.e) (ev_var rfl) (ev_var rfl) hol') (ev_single ?_) ?_) (ev_slice_from (e := encN.e) (ev_var rfl) (ev_var rfl) hol') ?_
      · simp [upd, kfs, St.frozen]
      · rw [add_list _ _ (by rw [List.length_map]; exact lim_small (Nat.le_trans (Nat.le_add_right _ _) hb)), ← List.map_append]
      · rw [add_list _ _ (by rw [List.length_map, List.length_map, List.length_append]; exact lim_small hb), ← List.map_append]; rfl
    · rw [List.foldl_append, hos, List.length_append]; exact k1
    · rw [List.foldl_append, hos, List.length_append]; exact hsz2
  · intro σ ⟨h30, h34, _, _⟩
    refine Ex.own (ds := [.int 0, .int 0, .int 0, .int 0]) rfl (lim_small (by decide)) ?_
    refine Ex.loopE (e := encNN.e) (fun pre σ => σ 30 = some (false, encNN.e M) ∧ σ 32 = some (true, encII.e (pre.foldl (orderStep M) [0, 0, 0, 0]))) ordersF (evIt_of (ev_var (frozen_of h34)) (by rw [List.length_map]; exact Nat.le_trans (by decide +kernel : ordersF.length ≤ 24) (lim_small (by decide)))) ⟨h30, rfl⟩ ?_ ?_
    · intro pre o post σ hx ⟨h30, h32⟩
      refine ⟨_, rfl, ?_⟩
      have ho : o ∈ ordersF := mem_mid hx
      generalize hsh : pre.foldl (orderStep M) [0, 0, 0, 0] = sh at h32
      have hl4 : sh.length = 4 := by rw [← hsh, foldOrder_length]; rfl
      refine Ex.assign (d := encN.e 0) rfl ?_
      refine Ex.loopB (e := encN.e) (fun pre₂ σ => σ 30 = some (false, encNN.e M) ∧ σ 32 = some (true, encII.e sh) ∧ σ 37 = some (false, encN.e (hereF 0 pre₂)) ∧ piv M 0 pre₂ = none) (fun σ => σ 30 = some (false, encNN.e M) ∧ σ 32 = some (true, encII.e (orderStep M sh o))) o (evIt_of (ev_var rfl) (by rw [List.length_map]; exact lim_small (Nat.le_trans (orders_len o ho) (by decide)))) ⟨h30, h32, rfl, rfl⟩ ?_ ?_
      · intro pre₂ p post₂ σ hx₂ ⟨h30, h32, h37, hpv⟩
        refine ⟨_, rfl, ?_⟩
        have hp : p < 4 := orders_lt o ho p (mem_mid hx₂)
        refine Ex.assign (d := encN.e (hereF 0 pre₂ ||| 2 ^ p)) (ev_bin (ev_var (frozen_of (show upd σ 35 (false, encN.e p) 37 = _ from h37))) (ev_bin (x := .int 1) (y := encN.e p) rfl (ev_var rfl) (shl_nat hp)) (bor_nat _ _)) ?_
        have s30 : upd (upd σ 35 (false, encN.e p)) 37 (false, encN.e (hereF 0 pre₂ ||| 2 ^ p)) 30 = some (false, encNN.e M) := h30
        have s32 : upd (upd σ 35 (false, encN.e p)) 37 (false, encN.e (hereF 0 pre₂ ||| 2 ^ p)) 32 = some (true, encII.e sh) := h32
        have s35 : upd (upd σ 35 (false, encN.e p)) 37 (false, encN.e (hereF 0 pre₂ ||| 2 ^ p)) 35 = some (false, encN.e p) := rfl
        have s37 : upd (upd σ 35 (false, encN.e p)) 37 (false, encN.e (hereF 0 pre₂ ||| 2 ^ p)) 37 = some (false, encN.e (hereF 0 pre₂ ||| 2 ^ p)) := rfl
        generalize upd (upd σ 35 (false, encN.e p)) 37 (false, encN.e (hereF 0 pre₂ ||| 2 ^ p)) = S at s30 s32 s35 s37 ⊢
        have hcond : (!decide ((M.filter fun m => decide (m &&& (hereF 0 pre₂ ||| 2 ^ p) = m)) = [])) = winB M (hereF 0 pre₂ ||| 2 ^ p) := by
          unfold winB
          rw [Bool.eq_iff_iff]
          simp [List.filter_eq_nil_iff]
        have hpv2 : ∀ r, piv M 0 (pre₂ ++ p :: r) = if winB M (hereF 0 pre₂ ||| 2 ^ p) then some p else piv M (hereF 0 pre₂ ||| 2 ^ p) r := fun r => by rw [piv_append, hpv]; rfl
        refine Ex.ite (winB M (hereF 0 pre₂ ||| 2 ^ p)) ?_ (fun q => ?_) fun q => ?_
        · rw [← hcond]
          refine ev_cmp (x := .list ((M.filter fun m => decide (m &&& (hereF 0 pre₂ ||| 2 ^ p) = m)).map encN.e)) (y := .list []) ?_ rfl (ne_nil encN (by decide) _)
          have h := ev_comp (tab := tab) (G := Gfix tab defs n) (e := encN.e) (e' := encN.e) (elt := .var 36 ⟨54, 16, 54, 20⟩) (t := .one 36 ⟨54, 25, 54, 29⟩) (it := .of (.var 30 ⟨54, 33, 54, 38⟩)) (ifs := .cons (.cmp .eq (.bin .band (.var 36 ⟨54, 42, 54, 46⟩) (.var 37 ⟨54, 49, 54, 53⟩) ⟨54, 42, 54, 53⟩) (.var 36 ⟨54, 57, 54, 61⟩) ⟨54, 42, 54, 61⟩) .nil) (sc := sc3) (p := ⟨54, 15, 54, 62⟩)
            (ρ := St.full S) (fun m => decide (m &&& (hereF 0 pre₂ ||| 2 ^ p) = m)) (fun m => m) (xs := M) (evIt_of (ev_var (full_of s30)) (by rw [List.length_map]; exact hM)) hM fun m hm => ⟨_, rfl, evIfs_one (ev_cmp (ev_bin (x := encN.e m) (ev_var rfl) (ev_var (by simp [upd, kfs, full_of s37]; try rfl)) (band_nat _ _)) (ev_var rfl) (cmp_eq encN (by decide) _ _)), fun _ => rfl⟩
          rw [List.map_id'] at h
          exact h
        · refine ex_bump s32 hl4 hp s35 (v := 1) rfl (.brk (.inr ⟨rfl, s30, ?_⟩))
          have : orderStep M sh o = bump sh p 1 := by unfold orderStep; rw [hx₂, hpv2, if_pos q]
          rw [this]; rfl
        · refine .nil (.nil (.inl ⟨rfl, s30, s32, ?_, ?_⟩))
          · rw [s37]; simp [hereF]
          · rw [hpv2]; simp [q, piv]
      · intro σ h
        rw [List.foldl_append, hsh]
        rcases h with ⟨h30, h32, _, hpv⟩ | ⟨h30, h32⟩
        · refine .nil ⟨rfl, h30, ?_⟩
          have : orderStep M sh o = sh := by unfold orderStep; rw [hpv]
          rw [h32]
          show some (true, encII.e sh) = some (true, encII.e (orderStep M sh o))
          rw [this]
        · exact .nil ⟨rfl, h30, h32⟩
    · intro σ ⟨_, h32⟩
      exact Ex.ret (ev_var (full_of h32)) rfl
end L01
end Mine
end

section
namespace Mine
open PySem PySem.W PyProof.Rows
namespace L01

noncomputable abbrev Group := List (List Nat)
/-- v on each point that c holds of -/
noncomputable def bumpAll (c : Nat → Bool) (v : Int) (sh : List Int) (ps : List Nat) : List Int := ps.foldl (fun sh p => if c p then bump sh p v else sh) sh
theorem bumpAll_length (c : Nat → Bool) (v : Int) : ∀ (ps : List Nat) (sh : List Int), (bumpAll c v sh ps).length = sh.length
  | [], _ => rfl
  | p :: ps, sh => by
    show (bumpAll c v (if c p then bump sh p v else sh) ps).length = _
    rw [bumpAll_length c v ps]
    split
    · exact bump_length ..
    · rfl
theorem bumpAll_snoc (c : Nat → Bool) (v : Int) (sh : List Int) (ps : List Nat) (p : Nat) : bumpAll c v sh (ps ++ [p]) = if c p then bump (bumpAll c v sh ps) p v else bumpAll c v sh ps := by
  unfold bumpAll; rw [List.foldl_append]; rfl

/-! by unions -/
noncomputable def pickB (k pick : Nat) : Bool := decide (pick / 2 ^ k % 2 = 1)
noncomputable def chosenF (L : List Group) (pick : Nat) : List Group := ((List.range L.length).filter fun k => pickB k pick).map fun k => L.getD k []
noncomputable def unionF (L : List Group) (pick : Nat) : Group := dedup ((chosenF L pick).flatMap fun g => g)
noncomputable def partU (L : List Group) (pick : Nat) : Int := if (chosenF L pick).length % 2 = 0 then -(24 / ((unionF L pick).length : Int)) else 24 / ((unionF L pick).length : Int)
noncomputable def unionStep (L : List Group) (sh : List Int) (pick : Nat) : List Int := bumpAll (fun p => decide ([p] ∈ unionF L pick)) (partU L pick) sh (List.range 4)
noncomputable def picksU (L : List Group) : List Nat := (List.range (2 ^ L.length - 1)).map fun k => 1 + k
noncomputable def byUnions (L : List Group) : List Int := (picksU L).foldl (unionStep L) [0, 0, 0, 0]
theorem foldUnion_length (L : List Group) : ∀ (ps : List Nat) (sh : List Int), (ps.foldl (unionStep L) sh).length = sh.length
  | [], _ => rfl
  | p :: ps, sh => by rw [List.foldl_cons, foldUnion_length L ps, unionStep, bumpAll_length]
/-- at most four groups of one to three points -/
noncomputable def Groups (L : List Group) : Prop := L.length ≤ 4 ∧ ∀ g ∈ L, g.length ≤ 3 ∧ g ≠ []
theorem chosen_mem {L : List Group} {pick : Nat} {g : Group} (h : g ∈ chosenF L pick) : g ∈ L := by
  unfold chosenF at h
  obtain ⟨k, hk, rfl⟩ := List.mem_map.mp h
  exact getD_mem (List.mem_range.mp (List.mem_filter.mp hk).1)
theorem chosen_length {L : List Group} (pick : Nat) : (chosenF L pick).length ≤ L.length := by
  unfold chosenF; rw [List.length_map]; exact Nat.le_trans (List.length_filter_le ..) (by simp)
/-- an item of the low bits is set -/
theorem pick_some : ∀ (n pick : Nat), 0 < pick → pick < 2 ^ n → ∃ k, k < n ∧ pickB k pick = true
  | 0, pick, h0, h1 => absurd h1 (by simp; omega)
  | n + 1, pick, h0, h1 => by
    by_cases h : pick % 2 = 1
    · exact ⟨0, Nat.succ_pos _, by simp [pickB, h]⟩
    · obtain ⟨k, hk, hb⟩ := pick_some n (pick / 2) (by omega) (by rw [Nat.pow_succ] at h1; omega)
      refine ⟨k + 1, Nat.succ_lt_succ hk, ?_⟩
      have e : pick / 2 / 2 ^ k = pick / 2 ^ (k + 1) := by rw [Nat.div_div_eq_div_mul, Nat.pow_succ, Nat.mul_comm 2]
      unfold pickB at hb ⊢
      rw [← e]; exact hb
theorem union_pos {L : List Group} (hL : Groups L) {pick : Nat} (h : pick ∈ picksU L) : 0 < (unionF L pick).length := by
  obtain ⟨j, hj, rfl⟩ := List.mem_map.mp h
  have hj := List.mem_range.mp hj
  obtain ⟨k, hk, hb⟩ := pick_some L.length (1 + j) (by omega) (by omega)
  have hg : L.getD k [] ∈ chosenF L (1 + j) := List.mem_map.mpr ⟨k, List.mem_filter.mpr ⟨List.mem_range.mpr hk, hb⟩, rfl⟩
  have hne := (hL.2 _ (getD_mem (d := []) hk)).2
  obtain ⟨x, hx⟩ := List.exists_mem_of_ne_nil _ hne
  exact List.length_pos_of_mem (mem_dedup.mpr (List.mem_flatMap.mpr ⟨_, hg, hx⟩))
theorem fdiv_nat {b : Nat} (h : 0 < b) (hb : b ≤ 100) : binD .fdiv (.int 24) (encN.e b) = some (encI.e (24 / (b : Int))) := by
  have h1 : (0 : Int) < b ∧ (b : Int) < 1000000 := by omega
  simp only [binD, numsD, D.num, encN, binI, if_pos h1, Option.map_some]
  rfl
theorem gg_item {L : List Group} {k : Nat} (h : k < L.length) (hl : L.length ≤ lim) : itemD (.list (L.map encR.e)) (encN.e k) = some (encR.e (L.getD k [])) := itemD_get (get_map h) (by rw [List.length_map]; exact hl)
theorem ev_neg {G : Or} {a : C} {p : Pos} {ρ : Vw} {x : Int} (h : ev tab G a ρ = some (encI.e x)) : ev tab G (.neg a p) ρ = some (encI.e (-x)) := by
  simp only [ev_e1, ev_e2, ev_e3, ev_e4, ev_e5, ev_e6, ev_e7, ev_e8, ev_e9, ev_e10, ev_e11, ev_e12, ev_e13, ev_e14, ev_e15, ev_e16, ev_e17, ev_e18, ev_e19, ev_e20, ev_e21, ev_e22, ev_e23, ev_e24, ev_e25, ev_e26, ev_e27, ev_e28, h, Option.bind_some, encI, D.num, Option.map_some]
theorem flat_filter {L : List Group} : ((L.filter fun _ => true).flatMap fun x => (x.filter fun _ => true).map fun p => p) = L.flatMap fun g => g := by
  rw [filter_tt]; congr 1; funext x; rw [filter_tt, List.map_id']

theorem G_by_unions {n : Nat} (hn : 2 ≤ n) {L : List Group} (hL : Groups L) : Gfix tab defs n 51 [.list (L.map encR.e)] = some (encII.e (byUnions L)) := by
  obtain ⟨n, rfl⟩ : ∃ m, n = m + 1 := ⟨n - 1, by omega⟩
  rw [G_step (i := 51) rfl]
  refine evDef_of rfl ?_
  unfold b_law_by_unions
  have hl4 : L.length ≤ lim := lim_small (Nat.le_trans hL.1 (by decide))
  have hlen : ∀ {G : Or} {ρ : Vw} (i : Nat) (p q r : Pos), ρ i = some (.list (L.map encR.e)) → ev tab G (.len (.var i p) q r) ρ = some (encN.e L.length) := fun i p q r h => by
    rw [ev_len (ev_var h) (by rw [List.length_map]; exact hl4), List.length_map]; rfl
  have h16 : 2 ^ L.length ≤ 100 := Nat.le_trans (Nat.pow_le_pow_right (by decide) hL.1) (by decide)
  refine Ex.own (ds := [.int 0, .int 0, .int 0, .int 0]) rfl (lim_small (by decide)) ?_
  refine Ex.loopE (e := encN.e) (fun pre σ => σ 42 = some (false, .list (L.map encR.e)) ∧ σ 32 = some (true, encII.e (pre.foldl (unionStep L) [0, 0, 0, 0]))) (picksU L) (evIt_range2 (m := 1) (n := 2 ^ L.length) rfl (ev_bin (x := .int 1) (y := encN.e L.length) rfl (hlen _ _ _ _ rfl) (shl_nat' (Nat.le_trans hL.1 (by decide)))) (by decide) h16) ⟨rfl, rfl⟩ ?_ ?_
  · intro pre pick post σ hx ⟨h42, h32⟩
    refine ⟨_, rfl, ?_⟩
    have hpick : pick ∈ picksU L := mem_mid hx
    generalize hsh : pre.foldl (unionStep L) [0, 0, 0, 0] = sh at h32
    have hs4 : sh.length = 4 := by rw [← hsh, foldUnion_length]; rfl
    have s42 : upd σ 45 (false, encN.e pick) 42 = some (false, .list (L.map encR.e)) := h42
    have s32 : upd σ 45 (false, encN.e pick) 32 = some (true, encII.e sh) := h32
    have s45 : upd σ 45 (false, encN.e pick) 45 = some (false, encN.e pick) := rfl
    generalize upd σ 45 (false, encN.e pick) = S at s42 s32 s45 ⊢
    refine Ex.assign (d := .list ((chosenF L pick).map encR.e)) ?_ ?_
    · refine ev_comp (e := encN.e) (e' := encR.e) (fun k => pickB k pick) (fun k => L.getD k []) (xs := List.range L.length) (evIt_range (hlen _ _ _ _ (frozen_of s42)) (Nat.le_trans hL.1 (by decide))) (by rw [List.length_range]; exact hl4) fun k hk => ?_
      have hk' := List.mem_range.mp hk
      have v45 : upd (keepFree tab sc6 (St.frozen S)) 19 (encN.e k) 45 = some (encN.e pick) := by simp [upd, kfs, frozen_of s45]
      have v42 : upd (keepFree tab sc6 (St.frozen S)) 19 (encN.e k) 42 = some (.list (L.map encR.e)) := by simp [upd, kfs, frozen_of s42]
      exact ⟨_, rfl, evIfs_one (ev_cmp (ev_bin (ev_bin (ev_var v45) (y := encN.e k) (ev_var rfl) (shr_nat _ _)) rfl (mod2_nat _)) (y := encN.e 1) rfl (cmp_eq encN (by decide) _ 1)), fun _ => ev_item (ev_var v42) (y := encN.e k) (ev_var rfl) (gg_item hk' hl4)⟩
    have hcl : (chosenF L pick).length ≤ 4 := Nat.le_trans (chosen_length pick) hL.1
    have hfl : ((chosenF L pick).flatMap fun g => g).length ≤ 12 := Nat.le_trans (flatMap_le (k := 3) _ fun g hg => (hL.2 g (chosen_mem hg)).1) (Nat.mul_le_mul_right 3 hcl)
    have hul : (unionF L pick).length ≤ 12 := Nat.le_trans (length_dedup _) hfl
    refine Ex.assign (d := encR.e (unionF L pick)) (ev_call1 (x := .list (((chosenF L pick).flatMap fun g => g).map encNN.e)) ?_ (G_dedup encNN (by omega) (by decide) _ (Nat.le_trans hfl (lim_small (by decide))))) ?_
    · rw [← flat_filter]
      refine ev_comp2 (e := encR.e) (e₁ := encNN.e) (e' := encNN.e) (fun _ => true) (fun g => g) (fun _ _ => true) (fun _ p => p) (xs := chosenF L pick) (evIt_of (ev_var rfl) (by rw [List.length_map]; exact Nat.le_trans hcl (lim_small (by decide)))) (by rw [flat_filter]; exact Nat.le_trans hfl (lim_small (by decide))) fun g hg => ⟨_, rfl, rfl, fun _ => ⟨evIt_of (ev_var rfl) (by rw [List.length_map]; exact lim_small (Nat.le_trans (hL.2 g (chosen_mem hg)).1 (by decide))), fun p hp => ⟨_, rfl, rfl, fun _ => rfl⟩⟩⟩
    have hup : 0 < (unionF L pick).length := union_pos hL hpick
    have hlu : ∀ {ρ : Vw} (p q r : Pos), ρ 46 = some (encR.e (unionF L pick)) → ev tab (Gfix tab defs n) (.len (.var 46 p) q r) ρ = some (encN.e (unionF L pick).length) := fun p q r h => by
      rw [ev_len (ds := (unionF L pick).map encNN.e) (ev_var h) (by rw [List.length_map]; exact lim_small (Nat.le_trans hul (by decide))), List.length_map]; rfl
    have hlc : ∀ {ρ : Vw} (p q r : Pos), ρ 48 = some (.list ((chosenF L pick).map encR.e)) → ev tab (Gfix tab defs n) (.len (.var 48 p) q r) ρ = some (encN.e (chosenF L pick).length) := fun p q r h => by
      rw [ev_len (ev_var h) (by rw [List.length_map]; exact lim_small (Nat.le_trans hcl (by decide))), List.length_map]; rfl
    refine Ex.assign (d := encI.e (24 / ((unionF L pick).length : Int))) (ev_bin (x := .int 24) rfl (hlu _ _ _ rfl) (fdiv_nat hup (Nat.le_trans hul (by decide)))) ?_
    have key : ∀ T : St, T 42 = some (false, .list (L.map encR.e)) → T 32 = some (true, encII.e sh) → T 46 = some (false, encR.e (unionF L pick)) → T 47 = some (false, encI.e (partU L pick)) → Ex tab (Gfix tab defs n) (.cons (.for (.one 35 ⟨81, 12, 81, 13⟩) (.range1 (.int (4) ⟨81, 23, 81, 24⟩) ⟨81, 17, 81, 22⟩ ⟨81, 17, 81, 25⟩) (.cons (.ite (.cmp .is (.call 12 (.cons (.var 46 ⟨82, 24, 82, 29⟩) (.cons (.list (.cons (.var 35 ⟨82, 32, 82, 33⟩) .nil) ⟨82, 31, 82, 34⟩) .nil)) ⟨82, 15, 82, 23⟩ ⟨82, 15, 82, 35⟩) (.bool true ⟨82, 39, 82, 43⟩) ⟨82, 15, 82, 43⟩) (.cons (.setitem 32 (.var 35 ⟨83, 23, 83, 24⟩) (.bin .add (.item (.var 32 ⟨83, 28, 83, 34⟩) (.var 35 ⟨83, 35, 83, 36⟩) ⟨83, 28, 83, 37⟩) (.var 47 ⟨83, 40, 83, 44⟩) ⟨83, 28, 83, 44⟩) ⟨83, 16, 83, 22⟩ ⟨83, 16, 83, 25⟩ ⟨83, 16, 83, 44⟩)
  .nil) .nil ⟨82, 12, 83, 44⟩)
  .nil) ⟨81, 8, 83, 44⟩) .nil) T (fun σ' fl => fl = .next ∧ σ' 42 = some (false, .list (L.map encR.e)) ∧ σ' 32 = some (true, encII.e ((pre ++ [pick]).foldl (unionStep L) [0, 0, 0, 0]))) := by
      intro T t42 t32 t46 t47
      refine Ex.loopE (e := encN.e) (fun pre₂ σ => σ 42 = some (false, .list (L.map encR.e)) ∧ σ 46 = some (false, encR.e (unionF L pick)) ∧ σ 47 = some (false, encI.e (partU L pick)) ∧ σ 32 = some (true, encII.e (bumpAll (fun p => decide ([p] ∈ unionF L pick)) (partU L pick) sh pre₂))) (List.range 4) (evIt_range (n := 4) rfl (by decide)) ⟨t42, t46, t47, t32⟩ ?_ ?_
      · intro pre₂ p post₂ σ hx₂ ⟨h42, h46, h47, h32⟩
        refine ⟨_, rfl, ?_⟩
        have hp : p < 4 := List.mem_range.mp (mem_mid hx₂)
        have s42 : upd σ 35 (false, encN.e p) 42 = some (false, .list (L.map encR.e)) := h42
        have s46 : upd σ 35 (false, encN.e p) 46 = some (false, encR.e (unionF L pick)) := h46
        have s47 : upd σ 35 (false, encN.e p) 47 = some (false, encI.e (partU L pick)) := h47
        have s32 : upd σ 35 (false, encN.e p) 32 = some (true, encII.e (bumpAll (fun p => decide ([p] ∈ unionF L pick)) (partU L pick) sh pre₂)) := h32
        have s35 : upd σ 35 (false, encN.e p) 35 = some (false, encN.e p) := rfl
        generalize upd σ 35 (false, encN.e p) = S at s42 s46 s47 s32 s35 ⊢
        have hsn := bumpAll_snoc (fun p => decide ([p] ∈ unionF L pick)) (partU L pick) sh pre₂ p
        refine Ex.ite (decide ([p] ∈ unionF L pick)) (Eq.trans (ev_cmp (ev_call2 (x := .list ((unionF L pick).map encNN.e)) (y := encNN.e [p]) (ev_var (full_of s46)) (ev_single (full_of s35)) (G_contains encNN (by omega) (by decide) _ _)) (y := .bool true) rfl (is_bool _ _)) (by rw [beq_tt]; exact congrArg (fun b => some (D.bool b)) (decide_eq_decide.mpr Iff.rfl))) (fun q => ?_) fun q => ?_
        · refine ex_bump s32 (by rw [bumpAll_length]; exact hs4) hp s35 (ev_var (full_of s47)) (.nil (.nil ⟨rfl, s42, s46, s47, ?_⟩))
          rw [hsn, if_pos q]; rfl
        · refine .nil (.nil ⟨rfl, s42, s46, s47, ?_⟩)
          rw [hsn, if_neg (by rw [q]; decide)]; exact s32
      · intro σ ⟨h42, _, _, h32⟩
        refine .nil ⟨rfl, h42, ?_⟩
        rw [List.foldl_append, hsh]; exact h32
    refine Ex.ite (decide ((chosenF L pick).length % 2 = 0)) (ev_cmp (ev_bin (hlc _ _ _ rfl) rfl (mod2_nat _)) (y := encN.e 0) rfl (cmp_eq encN (by decide) _ 0)) (fun q => ?_) fun q => ?_
    · refine Ex.assign (ev_neg (x := 24 / ((unionF L pick).length : Int)) (ev_var rfl)) (.nil (key _ s42 s32 rfl ?_))
      have : partU L pick = -(24 / ((unionF L pick).length : Int)) := if_pos (of_decide_eq_true q)
      rw [this]; rfl
    · refine .nil (key _ s42 s32 rfl ?_)
      have : partU L pick = 24 / ((unionF L pick).length : Int) := if_neg (of_decide_eq_false q)
      rw [this]; rfl
  · intro σ ⟨_, h32⟩
    exact Ex.ret (ev_var (full_of h32)) rfl

/-! by rooms -/
noncomputable def roomF (pick : Nat) : Group := ((List.range 4).filter fun p => pickB p pick).map fun p => [p]
noncomputable def insideF (L : List Group) (pick : Nat) : List Group := L.filter fun g => decide ((g.filter fun x => !decide (x ∈ roomF pick)) = [])
noncomputable def partR (pick : Nat) : Int := [0, 6, 2, 2, 6].getD (roomF pick).length 0
noncomputable def heldB (L : List Group) (pick p : Nat) : Bool := decide (cnt ((insideF L pick).flatMap fun g => g) [p] = (insideF L pick).length)
noncomputable def roomStep (L : List Group) (sh : List Int) (pick : Nat) : List Int := if insideF L pick = [] then sh else bumpAll (heldB L pick) (partR pick) sh (List.range 4)
noncomputable def picksR : List Nat := (List.range (16 - 1)).map fun k => 1 + k
noncomputable def byRooms (L : List Group) : List Int := picksR.foldl (roomStep L) [0, 0, 0, 0]
theorem foldRoom_length (L : List Group) : ∀ (ps : List Nat) (sh : List Int), (ps.foldl (roomStep L) sh).length = sh.length
  | [], _ => rfl
  | p :: ps, sh => by
    rw [List.foldl_cons, foldRoom_length L ps, roomStep]
    split
    · rfl
    · exact bumpAll_length ..
theorem room_length (pick : Nat) : (roomF pick).length ≤ 4 := by unfold roomF; rw [List.length_map]; exact Nat.le_trans (List.length_filter_le ..) (by simp)

theorem G_by_rooms {n : Nat} (hn : 2 ≤ n) {L : List Group} (hL : Groups L) : Gfix tab defs n 55 [.list (L.map encR.e)] = some (encII.e (byRooms L)) := by
  obtain ⟨n, rfl⟩ : ∃ m, n = m + 1 := ⟨n - 1, by omega⟩
  rw [G_step (i := 55) rfl]
  refine evDef_of rfl ?_
  unfold b_law_by_rooms
  have hl4 : L.length ≤ lim := lim_small (Nat.le_trans hL.1 (by decide))
  refine Ex.own (ds := [.int 0, .int 0, .int 0, .int 0]) rfl (lim_small (by decide)) ?_
  refine Ex.loopE (e := encN.e) (fun pre σ => σ 42 = some (false, .list (L.map encR.e)) ∧ σ 32 = some (true, encII.e (pre.foldl (roomStep L) [0, 0, 0, 0]))) picksR (evIt_range2 (m := 1) (n := 16) rfl rfl (by decide) (by decide)) ⟨rfl, rfl⟩ ?_ ?_
  · intro pre pick post σ hx ⟨h42, h32⟩
    refine ⟨_, rfl, ?_⟩
    generalize hsh : pre.foldl (roomStep L) [0, 0, 0, 0] = sh at h32
    have hs4 : sh.length = 4 := by rw [← hsh, foldRoom_length]; rfl
    have s42 : upd σ 45 (false, encN.e pick) 42 = some (false, .list (L.map encR.e)) := h42
    have s32 : upd σ 45 (false, encN.e pick) 32 = some (true, encII.e sh) := h32
    have s45 : upd σ 45 (false, encN.e pick) 45 = some (false, encN.e pick) := rfl
    generalize upd σ 45 (false, encN.e pick) = S at s42 s32 s45 ⊢
    have hrl := room_length pick
    refine Ex.assign (d := encR.e (roomF pick)) ?_ ?_
    · refine ev_comp (e := encN.e) (e' := encNN.e) (fun p => pickB p pick) (fun p => [p]) (xs := List.range 4) (evIt_range (n := 4) rfl (by decide)) (lim_small (by decide)) fun p hp => ?_
      have v45 : upd (keepFree tab sc9 (St.frozen S)) 35 (encN.e p) 45 = some (encN.e pick) := by simp [upd, kfs, frozen_of s45]
      exact ⟨_, rfl, evIfs_one (ev_cmp (ev_bin (ev_bin (ev_var v45) (y := encN.e p) (ev_var rfl) (shr_nat _ _)) rfl (mod2_nat _)) (y := encN.e 1) rfl (cmp_eq encN (by decide) _ 1)), fun _ => ev_single rfl⟩
    have hil : (insideF L pick).length ≤ 4 := Nat.le_trans (List.length_filter_le ..) hL.1
    have him : ∀ g ∈ insideF L pick, g ∈ L := fun g hg => (List.mem_filter.mp hg).1
    have hfl : ((insideF L pick).flatMap fun g => g).length ≤ 12 := Nat.le_trans (flatMap_le (k := 3) _ fun g hg => (hL.2 g (him g hg)).1) (Nat.mul_le_mul_right 3 hil)
    refine Ex.assign (d := .list ((insideF L pick).map encR.e)) ?_ ?_
    · have h := ev_comp (tab := tab) (G := Gfix tab defs n) (e := encR.e) (e' := encR.e) (elt := .var 50 ⟨89, 18, 89, 23⟩) (t := .one 50 ⟨89, 28, 89, 33⟩) (it := .of (.var 42 ⟨89, 37, 89, 42⟩)) (ifs := .cons (.cmp .eq (.comp (.var 49 ⟨89, 47, 89, 52⟩) (.gen (.one 49 ⟨89, 57, 89, 62⟩) (.of (.var 50 ⟨89, 66, 89, 71⟩)) (.cons (.cmp .isnot (.call 12 (.cons (.var 54 ⟨89, 84, 89, 88⟩) (.cons (.var 49 ⟨89, 90, 89, 95⟩) .nil)) ⟨89, 75, 89, 83⟩ ⟨89, 75, 89, 96⟩) (.bool true ⟨89, 104, 89, 108⟩) ⟨89, 75, 89, 108⟩) .nil) .done) sc7 ⟨89, 46, 89, 109⟩) (.list .nil ⟨89, 113, 89, 115⟩) ⟨89, 46, 89, 115⟩) .nil) (sc := sc8) (p := ⟨89, 17, 89, 116⟩)
        (ρ := St.frozen (upd S 54 (false, encR.e (roomF pick)))) (fun g => decide ((g.filter fun x => !decide (x ∈ roomF pick)) = [])) (fun g => g) (xs := L) (evIt_of (ev_var (frozen_of (show upd S 54 (false, encR.e (roomF pick)) 42 = _ from s42))) (by rw [List.length_map]; exact hl4)) hl4 fun g hg => by
          have hg3 : g.length ≤ lim := lim_small (Nat.le_trans (hL.2 g hg).1 (by decide))
          have h2 := ev_comp (tab := tab) (G := Gfix tab defs n) (e := encNN.e) (e' := encNN.e) (elt := .var 49 ⟨89, 47, 89, 52⟩) (t := .one 49 ⟨89, 57, 89, 62⟩) (it := .of (.var 50 ⟨89, 66, 89, 71⟩)) (ifs := .cons (.cmp .isnot (.call 12 (.cons (.var 54 ⟨89, 84, 89, 88⟩) (.cons (.var 49 ⟨89, 90, 89, 95⟩) .nil)) ⟨89, 75, 89, 83⟩ ⟨89, 75, 89, 96⟩) (.bool true ⟨89, 104, 89, 108⟩) ⟨89, 75, 89, 108⟩) .nil) (sc := sc7) (p := ⟨89, 46, 89, 109⟩)
            (ρ := upd (keepFree tab sc8 (St.frozen (upd S 54 (false, encR.e (roomF pick))))) 50 (encR.e g)) (fun x => !decide (x ∈ roomF pick)) (fun x => x) (xs := g) (evIt_of (ev_var rfl) (by rw [List.length_map]; exact hg3)) hg3 fun x hx => by
              have v54 : upd (keepFree tab sc7 (upd (keepFree tab sc8 (St.frozen (upd S 54 (false, encR.e (roomF pick))))) 50 (encR.e g))) 49 (encNN.e x) 54 = some (.list ((roomF pick).map encNN.e)) := by simp [upd, kfs, St.frozen]; rfl
              refine ⟨_, rfl, evIfs_one (Eq.trans (ev_cmp (ev_call2 (ev_var v54) (y := encNN.e x) (ev_var rfl) (G_contains encNN (by omega) (by decide) _ _)) (y := .bool true) rfl (isnot_bool _ _)) ?_), fun _ => rfl⟩
              rw [beq_tt]; exact congrArg (fun b => some (D.bool (!b))) (decide_eq_decide.mpr Iff.rfl)
          rw [List.map_id'] at h2
          exact ⟨_, rfl, evIfs_one (Eq.trans (ev_cmp h2 (y := .list []) rfl (eq_nil encNN (by decide) _)) (congrArg (fun b => some (D.bool b)) (decide_eq_decide.mpr Iff.rfl))), fun _ => rfl⟩
      rw [List.map_id'] at h
      exact h
    have t42 : upd (upd S 54 (false, encR.e (roomF pick))) 52 (false, .list ((insideF L pick).map encR.e)) 42 = some (false, .list (L.map encR.e)) := s42
    have t32 : upd (upd S 54 (false, encR.e (roomF pick))) 52 (false, .list ((insideF L pick).map encR.e)) 32 = some (true, encII.e sh) := s32
    have t54 : upd (upd S 54 (false, encR.e (roomF pick))) 52 (false, .list ((insideF L pick).map encR.e)) 54 = some (false, .list ((roomF pick).map encNN.e)) := rfl
    have t52 : upd (upd S 54 (false, encR.e (roomF pick))) 52 (false, .list ((insideF L pick).map encR.e)) 52 = some (false, .list ((insideF L pick).map encR.e)) := rfl
    generalize upd (upd S 54 (false, encR.e (roomF pick))) 52 (false, .list ((insideF L pick).map encR.e)) = T at t42 t32 t54 t52 ⊢
    have hst : roomStep L sh pick = if insideF L pick = [] then sh else bumpAll (heldB L pick) (partR pick) sh (List.range 4) := rfl
    refine Ex.ite (!decide (insideF L pick = [])) (Eq.trans (ev_cmp (ev_var (full_of t52)) (y := .list []) rfl (ne_nil encR (by decide) _)) (congrArg (fun b => some (D.bool (!b))) (decide_eq_decide.mpr Iff.rfl))) (fun q => ?_) fun q => ?_
    · have q' : ¬ insideF L pick = [] := by simpa using q
      have hli : ∀ {ρ : Vw} (p q r : Pos), ρ 52 = some (.list ((insideF L pick).map encR.e)) → ev tab (Gfix tab defs n) (.len (.var 52 p) q r) ρ = some (encN.e (insideF L pick).length) := fun p q r h => by
        rw [ev_len (ev_var h) (by rw [List.length_map]; exact Nat.le_trans hil (lim_small (by decide))), List.length_map]; rfl
      have hlr : ∀ {ρ : Vw} (p q r : Pos), ρ 54 = some (.list ((roomF pick).map encNN.e)) → ev tab (Gfix tab defs n) (.len (.var 54 p) q r) ρ = some (encN.e (roomF pick).length) := fun p q r h => by
        rw [ev_len (ev_var h) (by rw [List.length_map]; exact Nat.le_trans hrl (lim_small (by decide))), List.length_map]; rfl
      refine Ex.assign (d := .list (((insideF L pick).flatMap fun g => g).map encNN.e)) ?_ ?_
      · rw [← flat_filter]
        refine ev_comp2 (e := encR.e) (e₁ := encNN.e) (e' := encNN.e) (fun _ => true) (fun g => g) (fun _ _ => true) (fun _ p => p) (xs := insideF L pick) (evIt_of (ev_var (frozen_of t52)) (by rw [List.length_map]; exact Nat.le_trans hil (lim_small (by decide)))) (by rw [flat_filter]; exact Nat.le_trans hfl (lim_small (by decide))) fun g hg => ⟨_, rfl, rfl, fun _ => ⟨evIt_of (ev_var rfl) (by rw [List.length_map]; exact lim_small (Nat.le_trans (hL.2 g (him g hg)).1 (by decide))), fun p hp => ⟨_, rfl, rfl, fun _ => rfl⟩⟩⟩
      refine Ex.assign (d := encI.e (partR pick)) ?_ ?_
      · refine ev_item (x := encII.e [0, 6, 2, 2, 6]) (y := encN.e (roomF pick).length) rfl (hlr _ _ _ (frozen_of (show upd T 53 _ 54 = _ from t54))) (int_item (by show _ < 5; omega) (lim_small (by decide)))
      refine Ex.loopE (e := encN.e) (fun pre₂ σ => σ 42 = some (false, .list (L.map encR.e)) ∧ σ 53 = some (false, .list (((insideF L pick).flatMap fun g => g).map encNN.e)) ∧ σ 52 = some (false, .list ((insideF L pick).map encR.e)) ∧ σ 47 = some (false, encI.e (partR pick)) ∧ σ 32 = some (true, encII.e (bumpAll (heldB L pick) (partR pick) sh pre₂))) (List.range 4) (evIt_range (n := 4) rfl (by decide)) ⟨t42, rfl, t52, rfl, t32⟩ ?_ ?_
      · intro pre₂ p post₂ σ hx₂ ⟨h42, h53, h52, h47, h32⟩
        refine ⟨_, rfl, ?_⟩
        have hp : p < 4 := List.mem_range.mp (mem_mid hx₂)
        have s42 : upd σ 35 (false, encN.e p) 42 = some (false, .list (L.map encR.e)) := h42
        have s53 : upd σ 35 (false, encN.e p) 53 = some (false, .list (((insideF L pick).flatMap fun g => g).map encNN.e)) := h53
        have s52 : upd σ 35 (false, encN.e p) 52 = some (false, .list ((insideF L pick).map encR.e)) := h52
        have s47 : upd σ 35 (false, encN.e p) 47 = some (false, encI.e (partR pick)) := h47
        have s32 : upd σ 35 (false, encN.e p) 32 = some (true, encII.e (bumpAll (heldB L pick) (partR pick) sh pre₂)) := h32
        have s35 : upd σ 35 (false, encN.e p) 35 = some (false, encN.e p) := rfl
        generalize upd σ 35 (false, encN.e p) = S at s42 s53 s52 s47 s32 s35 ⊢
        have hsn := bumpAll_snoc (heldB L pick) (partR pick) sh pre₂ p
        refine Ex.ite (heldB L pick p) (Eq.trans (ev_cmp (ev_call2 (ev_var (full_of s53)) (y := encNN.e [p]) (ev_single (full_of s35)) (G_countOf encNN (by omega) (by decide) _ _ (Nat.le_trans hfl (lim_small (by decide))))) (hli _ _ _ (full_of s52)) (cmp_eq encN (by decide) _ _)) ?_) (fun q => ?_) fun q => ?_
        · unfold heldB; exact congrArg (fun b => some (D.bool b)) (decide_eq_decide.mpr Iff.rfl)
        · refine ex_bump s32 (by rw [bumpAll_length]; exact hs4) hp s35 (ev_var (full_of s47)) (.nil (.nil ⟨rfl, s42, s53, s52, s47, ?_⟩))
          rw [hsn, if_pos q]; rfl
        · refine .nil (.nil ⟨rfl, s42, s53, s52, s47, ?_⟩)
          rw [hsn, if_neg (by rw [q]; decide)]; exact s32
      · intro σ ⟨h42, _, _, _, h32⟩
        refine .nil (.nil ⟨rfl, h42, ?_⟩)
        rw [List.foldl_append, hsh]
        show _ = some (true, encII.e (roomStep L sh pick))
        rw [hst, if_neg q']; exact h32
    · have q' : insideF L pick = [] := by simpa using q
      refine .nil (.nil ⟨rfl, t42, ?_⟩)
      rw [List.foldl_append, hsh]
      show _ = some (true, encII.e (roomStep L sh pick))
      rw [hst, if_pos q']; exact t32
  · intro σ ⟨_, h32⟩
    exact Ex.ret (ev_var (full_of h32)) rfl

/-! the law -/
theorem law_walk (ns : List Int) (hl : ns.length ≤ 63) (F : List (List Nat)) (hF : F = figsF ns)
    (f1 : ∀ j, j < 4 → ∀ k, k < 4 → same ((rowsF F).getD j []) ((rowsF F).getD k []) = decide ((masksF F).getD j 0 = (masksF F).getD k 0)) (f2 : leastF (rowsF F) = dueF F) (hG : Groups (leastF (rowsF F)))
    (f3 : byUnions (leastF (rowsF F)) = byOrders (masksF F)) (f4 : byRooms (leastF (rowsF F)) = byOrders (masksF F)) :
    evDef tab (Gfix tab defs 10) [16] b_law [.list (ns.map .raw)] = some (.bool true) := by
  obtain ⟨hF4, hFs⟩ := figs_small ns
  rw [← hF] at hF4 hFs
  have hFl : F.length ≤ lim := by rw [hF4]; exact lim_small (by decide)
  have hR : Rows (rowsF F) := by
    refine ⟨by rw [rowsF, List.length_map, hF4], fun r hr => ?_⟩
    obtain ⟨x, hx, rfl⟩ := List.mem_map.mp hr
    obtain ⟨a, b, c, rfl, _⟩ := hFs x hx
    simp [sing]
  have hM4 : (masksF F).length = 4 := by rw [masksF, List.length_map, hF4]
  have hRl : (rowsF F).length ≤ lim := by rw [hR.1]; exact lim_small (by decide)
  refine evDef_of rfl ?_
  unfold b_law
  refine Ex.assign (ev_call1 (x := .list (ns.map .raw)) rfl (G_figures (by decide) ns hl)) ?_
  rw [← hF]
  refine Ex.assign (ev_call1 (ev_var rfl) (G_masks (by decide) F hF4 hFs)) ?_
  refine Ex.assign (d := .list ((rowsF F).map encR.e)) (ev_comp_all (e := encNN.e) (e' := encR.e) sing (xs := F) (evIt_of (ev_var rfl) (by rw [List.length_map]; exact hFl)) hFl fun r hr => ⟨_, rfl, ?_⟩) ?_
  · have hr3 : r.length ≤ lim := by obtain ⟨a, b, c, rfl, _⟩ := hFs r hr; exact lim_small (by simp)
    exact ev_comp_all (e := encN.e) (e' := encNN.e) (fun q => [q]) (xs := r) (evIt_of (ev_var rfl) (by rw [List.length_map]; exact hr3)) hr3 fun q hq => ⟨_, rfl, ev_single rfl⟩
  suffices key : ∀ σ : St, σ 18 = some (false, .list (F.map encNN.e)) → σ 30 = some (false, encNN.e (masksF F)) → σ 39 = some (false, .list ((rowsF F).map encR.e)) → Ex tab (Gfix tab defs 10) _ σ _ from key _ rfl rfl rfl
  intro σ s18 s30 s39
  refine Ex.loopE (e := encN.e) (fun _ σ => σ 18 = some (false, .list (F.map encNN.e)) ∧ σ 30 = some (false, encNN.e (masksF F)) ∧ σ 39 = some (false, .list ((rowsF F).map encR.e))) (List.range 4) (evIt_range (n := 4) rfl (by decide)) ⟨s18, s30, s39⟩ ?_ ?_
  · intro pre j post σ hx ⟨s18, s30, s39⟩
    refine ⟨_, rfl, ?_⟩
    have hj : j < 4 := List.mem_range.mp (mem_mid hx)
    refine Ex.loopE (e := encN.e) (fun _ σ => σ 18 = some (false, .list (F.map encNN.e)) ∧ σ 30 = some (false, encNN.e (masksF F)) ∧ σ 39 = some (false, .list ((rowsF F).map encR.e)) ∧ σ 29 = some (false, encN.e j)) (List.range 4) (evIt_range (n := 4) rfl (by decide)) ⟨s18, s30, s39, rfl⟩ ?_ ?_
    · intro pre₂ k post₂ σ hx₂ ⟨s18, s30, s39, s29⟩
      refine ⟨_, rfl, ?_⟩
      have hk : k < 4 := List.mem_range.mp (mem_mid hx₂)
      have t30 : upd σ 19 (false, encN.e k) 30 = some (false, encNN.e (masksF F)) := s30
      have t39 : upd σ 19 (false, encN.e k) 39 = some (false, .list ((rowsF F).map encR.e)) := s39
      have t29 : upd σ 19 (false, encN.e k) 29 = some (false, encN.e j) := s29
      have t19 : upd σ 19 (false, encN.e k) 19 = some (false, encN.e k) := rfl
      have rj := rr_item (R := rowsF F) (k := j) (by rw [hR.1]; exact hj) hRl
      have rk := rr_item (R := rowsF F) (k := k) (by rw [hR.1]; exact hk) hRl
      have mj := nat_item (M := masksF F) (k := j) (by omega) (by rw [hM4]; exact lim_small (by decide))
      have mk := nat_item (M := masksF F) (k := k) (by omega) (by rw [hM4]; exact lim_small (by decide))
      have lj : ((rowsF F).getD j []).length ≤ lim := lim_small (Nat.le_trans (hR.2 _ (getD_mem (by rw [hR.1]; exact hj))) (by decide))
      have lk : ((rowsF F).getD k []).length ≤ lim := lim_small (Nat.le_trans (hR.2 _ (getD_mem (by rw [hR.1]; exact hk))) (by decide))
      refine Ex.iteF (Eq.trans (ev_cmp (ev_call2 (ev_item (ev_var (full_of t39)) (ev_var (full_of t29)) rj) (ev_item (ev_var (full_of t39)) (ev_var (full_of t19)) rk) (G_compare encNN (by decide) (by decide) _ _ lj lk)) (ev_cmp (ev_item (ev_var (full_of t30)) (ev_var (full_of t29)) mj) (ev_item (ev_var (full_of t30)) (ev_var (full_of t19)) mk) (cmp_eq encN (by decide) _ _)) (isnot_bool _ _)) ?_) (.nil ⟨rfl, s18, s30, s39, s29⟩)
      have h1 := f1 j hj k hk
      refine congrArg (fun b => some (D.bool b)) ?_
      rw [h1]
      simp
    · intro σ ⟨s18, s30, s39, _⟩
      exact .nil ⟨rfl, s18, s30, s39⟩
  intro σ ⟨s18, s30, s39⟩
  refine Ex.assign (ev_call1 (ev_var (frozen_of s39)) (G_least (by decide) hR)) ?_
  refine Ex.iteF (Eq.trans (ev_cmp (x := .list ((leastF (rowsF F)).map encR.e)) rfl (ev_call1 (ev_var (full_of (show upd σ 42 _ 18 = _ from s18))) (G_due (by decide) F hF4 hFs)) (cmp_ne (encL encR) (by decide) (leastF (rowsF F)) (dueF F))) (by rw [decide_eq_true f2]; rfl)) ?_
  refine Ex.assign (ev_call1 (ev_var (frozen_of (show upd σ 42 _ 18 = _ from s18))) (G_by_orders (by decide) F hF4 hFs)) ?_
  refine Ex.ret (d := .bool true) (Eq.trans (ev_and2 (ev_cmp (ev_call1 (x := .list ((leastF (rowsF F)).map encR.e)) rfl (G_by_unions (by decide) hG)) (y := encII.e (byOrders (masksF F))) rfl (cmp_eq encII (by decide) _ _)) fun _ => ev_cmp (ev_call1 (x := .list ((leastF (rowsF F)).map encR.e)) rfl (G_by_rooms (by decide) hG)) (y := encII.e (byOrders (masksF F))) rfl (cmp_eq encII (by decide) _ _)) ?_) rfl
  rw [decide_eq_true f3, decide_eq_true f4]; rfl
end L01
end Mine
end

section
namespace Mine
open PySem PySem.W PyProof.Rows
namespace L01

/-! masks and members -/
theorem mask_go (i : Nat) : ∀ (r : List Nat) (m : Nat), (r.foldl (fun m q => m ||| 2 ^ q) m).testBit i = (m.testBit i || decide (i ∈ r))
  | [], m => by simp
  | q :: r, m => by
    rw [List.foldl_cons, mask_go i r, Nat.testBit_or, Nat.testBit_two_pow]
    simp only [List.mem_cons]
    by_cases h : q = i
    · simp [h]
    · have : ¬ i = q := fun e => h e.symm
      simp [h, this]
theorem mask_bit (r : List Nat) (i : Nat) : (mask r).testBit i = decide (i ∈ r) := by unfold mask; rw [mask_go]; simp
theorem sub_bits {a b : Nat} : a &&& b = a ↔ ∀ i, a.testBit i = true → b.testBit i = true := by
  constructor
  · intro h i hi
    have := congrArg (·.testBit i) h
    simp only [Nat.testBit_and, hi, Bool.true_and] at this
    exact this
  · intro h
    refine Nat.eq_of_testBit_eq fun i => ?_
    rw [Nat.testBit_and]
    cases q : a.testBit i with
    | false => rfl
    | true => rw [h i q]; rfl
theorem mask_sub {r s : List Nat} : mask r &&& mask s = mask r ↔ ∀ q ∈ r, q ∈ s := by
  rw [sub_bits]
  simp only [mask_bit, decide_eq_true_eq]
theorem mask_eq {r s : List Nat} : mask r = mask s ↔ ∀ q, q ∈ r ↔ q ∈ s := by
  constructor
  · intro h q
    have := congrArg (·.testBit q) h
    simp only [mask_bit] at this
    exact decide_eq_decide.mp this
  · intro h
    refine Nat.eq_of_testBit_eq fun i => ?_
    rw [mask_bit, mask_bit]
    exact decide_eq_decide.mpr (h i)
theorem mem_sing {r : List Nat} {q : Nat} : [q] ∈ sing r ↔ q ∈ r := by
  unfold sing
  rw [List.mem_map]
  exact ⟨fun ⟨x, hx, e⟩ => by cases e; exact hx, fun h => ⟨q, h, rfl⟩⟩
theorem sing_form {r : List Nat} {x : List Nat} (h : x ∈ sing r) : ∃ q, x = [q] ∧ q ∈ r := by
  obtain ⟨q, hq, e⟩ := List.mem_map.mp h
  exact ⟨q, e.symm, hq⟩
theorem sub_sing {r s : List Nat} : (∀ x ∈ sing r, x ∈ sing s) ↔ ∀ q ∈ r, q ∈ s :=
  ⟨fun h q hq => mem_sing.mp (h _ (mem_sing.mpr hq)), fun h x hx => by obtain ⟨q, rfl, hq⟩ := sing_form hx; exact mem_sing.mpr (h q hq)⟩

section
variable {F : List (List Nat)} (hF : F.length = 4)
theorem row_eq {k : Nat} (hk : k < F.length) : (rowsF F).getD k [] = sing (F.getD k []) := getD_map (d := []) _ hk
theorem m_eq {k : Nat} (hk : k < F.length) : (masksF F).getD k 0 = mask (F.getD k []) := getD_map (d := []) _ hk
theorem subF_iff (R : List (List (List Nat))) (j k : Nat) : subF R j k = true ↔ ∀ x ∈ R.getD j [], x ∈ R.getD k [] := by
  unfold subF
  split
  · rw [same_iff]
    exact ⟨fun h x hx => (h x).mp (List.mem_append_left _ hx), fun h x => ⟨fun q => (List.mem_append.mp q).elim (h x) id, fun q => List.mem_append_right _ q⟩⟩
  · rw [same_iff]
    exact ⟨fun h x hx => (h x).mpr (List.mem_append_left _ hx), fun h x => ⟨fun q => List.mem_append_right _ q, fun q => (List.mem_append.mp q).elim (h x) id⟩⟩
include hF
theorem fact1 (j : Nat) (hj : j < 4) (k : Nat) (hk : k < 4) : same ((rowsF F).getD j []) ((rowsF F).getD k []) = decide ((masksF F).getD j 0 = (masksF F).getD k 0) := by
  rw [row_eq (by omega), row_eq (by omega), m_eq (by omega), m_eq (by omega), Bool.eq_iff_iff, same_iff, decide_eq_true_eq, mask_eq]
  refine ⟨fun h q => ?_, fun h x => ⟨fun hx => ?_, fun hx => ?_⟩⟩
  · rw [← mem_sing, ← mem_sing]; exact h _
  · obtain ⟨q, rfl, hq⟩ := sing_form hx; exact mem_sing.mpr ((h q).mp hq)
  · obtain ⟨q, rfl, hq⟩ := sing_form hx; exact mem_sing.mpr ((h q).mpr hq)
theorem sub_mask {j k : Nat} (hj : j < 4) (hk : k < 4) : subF (rowsF F) j k = decide ((masksF F).getD j 0 &&& (masksF F).getD k 0 = (masksF F).getD j 0) := by
  rw [m_eq (by omega), m_eq (by omega), Bool.eq_iff_iff, subF_iff, row_eq (by omega), row_eq (by omega), decide_eq_true_eq, mask_sub, sub_sing]
theorem way_eq {j k : Nat} (hj : j < 4) (hk : k < 4) : inWay (rowsF F) k j = (decide ((masksF F).getD j 0 &&& (masksF F).getD k 0 = (masksF F).getD j 0) && (!decide ((masksF F).getD j 0 = (masksF F).getD k 0) || decide (j < k))) := by
  unfold inWay
  rw [sub_mask hF hj hk, sub_mask hF hk hj]
  by_cases e : j = k
  · subst e; simp
  · generalize (masksF F).getD j 0 = a
    generalize (masksF F).getD k 0 = b
    rw [decide_eq_false e]
    by_cases h : a &&& b = a
    · have hb : (b &&& a = b) ↔ a = b := by rw [Nat.and_comm, h]
      by_cases q : a = b
      · simp [q]
      · have : ¬ b &&& a = b := fun z => q (hb.mp z)
        simp [h, q, this]
    · simp [h]
theorem kept_eq {k : Nat} (hk : k < 4) : keptF (rowsF F) k (List.range 4) = decide (lowerF (masksF F) k = []) := by
  unfold keptF lowerF
  rw [Bool.eq_iff_iff]
  simp only [Bool.not_eq_true', List.any_eq_false, List.mem_range, decide_eq_true_eq, List.filter_eq_nil_iff]
  refine ⟨fun h j hj => ?_, fun h j hj => ?_⟩
  · rw [← way_eq hF hj hk]; exact h j hj
  · rw [way_eq hF hj hk]; exact h j hj
theorem dedup_unlike : ∀ a b c : Nat, a < 4 → b < 4 → c < 4 → dedup (sing [a, b, c]) = unlikeF [a, b, c] := by
  have : ∀ a b c : Fin 4, dedup (sing [a.val, b.val, c.val]) = unlikeF [a.val, b.val, c.val] := by decide +kernel
  exact fun a b c ha hb hc => this ⟨a, ha⟩ ⟨b, hb⟩ ⟨c, hc⟩
theorem fact2 (hs : Small F) : leastF (rowsF F) = dueF F := by
  unfold leastF dueF
  have e : (List.range 4).filter (fun k => keptF (rowsF F) k (List.range 4)) = (List.range 4).filter fun k => decide (lowerF (masksF F) k = []) :=
    List.filter_congr fun k hk => kept_eq hF (List.mem_range.mp hk)
  rw [e]
  refine List.map_congr_left fun k hk => ?_
  have hk := List.mem_range.mp (List.mem_filter.mp hk).1
  obtain ⟨a, b, c, er, ha, hb, hc⟩ := hs (F.getD k []) (getD_mem (by omega))
  rw [row_eq (by omega), er]
  exact dedup_unlike hF a b c ha hb hc
/-- the groups that are kept, by their figures -/
theorem mem_least {g : Group} : g ∈ leastF (rowsF F) ↔ ∃ k, k < 4 ∧ keptF (rowsF F) k (List.range 4) = true ∧ g = dedup (sing (F.getD k [])) := by
  unfold leastF
  rw [List.mem_map]
  constructor
  · rintro ⟨k, hk, rfl⟩
    obtain ⟨h1, h2⟩ := List.mem_filter.mp hk
    have h1 := List.mem_range.mp h1
    exact ⟨k, h1, h2, by rw [row_eq (by omega)]⟩
  · rintro ⟨k, h1, h2, rfl⟩
    exact ⟨k, List.mem_filter.mpr ⟨List.mem_range.mpr h1, h2⟩, by rw [row_eq (by omega)]⟩
theorem groups (hs : Small F) : Groups (leastF (rowsF F)) := by
  refine ⟨?_, fun g hg => ?_⟩
  · unfold leastF; rw [List.length_map]; exact Nat.le_trans (List.length_filter_le ..) (by simp)
  · obtain ⟨k, hk, _, rfl⟩ := (mem_least hF).mp hg
    obtain ⟨a, b, c, er, _⟩ := hs (F.getD k []) (getD_mem (by omega))
    rw [er]
    refine ⟨Nat.le_trans (length_dedup _) (by simp [sing]), fun e => ?_⟩
    have : [a] ∈ dedup (sing [a, b, c]) := mem_dedup.mpr (mem_sing.mpr (by simp))
    rw [e] at this; cases this
/-- below each group there is a kept one -/
theorem kept_below : ∀ (n k : Nat), k < 4 → 4 * mask (F.getD k []) + k ≤ n → ∃ j, j < 4 ∧ keptF (rowsF F) j (List.range 4) = true ∧ ∀ q ∈ F.getD j [], q ∈ F.getD k []
  | n, k, hk, hn => by
    cases h : keptF (rowsF F) k (List.range 4) with
    | true => exact ⟨k, hk, h, fun q hq => hq⟩
    | false =>
      unfold keptF at h
      rw [Bool.not_eq_false', List.any_eq_true] at h
      obtain ⟨j, hj, hw⟩ := h
      have hj := List.mem_range.mp hj
      rw [way_eq hF hj hk, m_eq (by omega), m_eq (by omega), Bool.and_eq_true, Bool.or_eq_true, Bool.not_eq_true', decide_eq_true_eq, decide_eq_false_iff_not, decide_eq_true_eq] at hw
      obtain ⟨h1, h2⟩ := hw
      have hle : mask (F.getD j []) ≤ mask (F.getD k []) := by rw [← h1]; exact Nat.and_le_right
      have hlt : 4 * mask (F.getD j []) + j < 4 * mask (F.getD k []) + k := by rcases h2 with h2 | h2 <;> omega
      obtain ⟨i, hi, hki, hs⟩ := kept_below (n - 1) j hj (by omega)
      exact ⟨i, hi, hki, fun q hq => mask_sub.mp h1 q (hs q hq)⟩
  termination_by n k hk hn => 4 * mask (F.getD k []) + k

/-- the points of a group are single figures below four -/
noncomputable def Fine (g : Group) : Prop := g.Nodup ∧ ∀ x ∈ g, ∃ q, x = [q] ∧ q < 4
noncomputable def inS (g : Group) (S : Nat) : Prop := ∀ q, [q] ∈ g → S.testBit q = true
theorem fine (hs : Small F) {g : Group} (hg : g ∈ leastF (rowsF F)) : Fine g := by
  obtain ⟨k, hk, _, rfl⟩ := (mem_least hF).mp hg
  obtain ⟨a, b, c, er, ha, hb, hc⟩ := hs (F.getD k []) (getD_mem (by omega))
  refine ⟨nodup_dedup _, fun x hx => ?_⟩
  obtain ⟨q, rfl, hq⟩ := sing_form (mem_dedup.mp hx)
  refine ⟨q, rfl, ?_⟩
  rw [er] at hq
  simp only [List.mem_cons, List.not_mem_nil, or_false] at hq
  omega
theorem win_iff (S : Nat) : winB (masksF F) S = true ↔ ∃ g ∈ leastF (rowsF F), inS g S := by
  unfold winB
  rw [List.any_eq_true]
  constructor
  · rintro ⟨m, hm, h⟩
    obtain ⟨r, hr, rfl⟩ := List.mem_map.mp hm
    obtain ⟨k, hk, e⟩ := List.getElem_of_mem hr
    rw [decide_eq_true_eq, sub_bits] at h
    obtain ⟨j, hj, hkj, hsub⟩ := kept_below hF _ k (by omega) (Nat.le_refl _)
    refine ⟨_, (mem_least hF).mpr ⟨j, hj, hkj, rfl⟩, fun q hq => h q ?_⟩
    have hq' := hsub q (mem_sing.mp (mem_dedup.mp hq))
    have : F.getD k [] = r := by rw [List.getD_eq_getElem?_getD, List.getElem?_eq_getElem hk]; exact e
    rw [mask_bit, decide_eq_true_eq, ← this]; exact hq'
  · rintro ⟨g, hg, h⟩
    obtain ⟨k, hk, _, rfl⟩ := (mem_least hF).mp hg
    refine ⟨mask (F.getD k []), List.mem_map.mpr ⟨_, getD_mem (by omega), rfl⟩, ?_⟩
    rw [decide_eq_true_eq, sub_bits]
    intro i hi
    rw [mask_bit, decide_eq_true_eq] at hi
    exact h i (mem_dedup.mpr (mem_sing.mpr hi))
end
end L01
end Mine
end

section
namespace Mine
open PySem PySem.W PyProof.Rows
namespace L01

/-! shares as four numbers -/
noncomputable def vec (g : Nat → Int) : List Int := [g 0, g 1, g 2, g 3]
theorem vec_bump (g : Nat → Int) {p : Nat} (hp : p < 4) (v : Int) : bump (vec g) p v = vec fun i => g i + if i = p then v else 0 := by
  match p, hp with
  | 0, _ => simp [bump, vec]
  | 1, _ => simp [bump, vec]
  | 2, _ => simp [bump, vec]
  | 3, _ => simp [bump, vec]
  | n + 4, h => exact absurd h (by omega)
theorem vec_congr {g h : Nat → Int} (e : ∀ i, i < 4 → g i = h i) : vec g = vec h := by
  unfold vec; rw [e 0 (by decide), e 1 (by decide), e 2 (by decide), e 3 (by decide)]
theorem bumpAll_go (c : Nat → Bool) (v : Int) : ∀ (ps : List Nat) (g : Nat → Int), (∀ p ∈ ps, p < 4) → ps.Nodup → bumpAll c v (vec g) ps = vec fun i => g i + if i ∈ ps ∧ c i = true then v else 0
  | [], g, _, _ => by simp [bumpAll]
  | p :: ps, g, h, hn => by
    have hp := h p (List.mem_cons_self ..)
    have hn' := List.nodup_cons.mp hn
    have step : bumpAll c v (vec g) (p :: ps) = bumpAll c v (if c p then bump (vec g) p v else vec g) ps := rfl
    have ih := fun g => bumpAll_go c v ps g (fun q hq => h q (List.mem_cons_of_mem _ hq)) hn'.2
    rw [step]
    cases hc : c p with
    | true =>
      rw [if_pos rfl, vec_bump g hp, ih]
      refine vec_congr fun i _ => ?_
      by_cases e : i = p
      · subst e; simp [hn'.1, hc]
      · simp [e]
    | false =>
      rw [if_neg (by decide), ih]
      refine vec_congr fun i _ => ?_
      by_cases e : i = p
      · subst e; simp [hn'.1, hc]
      · simp [e]
theorem vec_bumpAll (c : Nat → Bool) (v : Int) (g : Nat → Int) : bumpAll c v (vec g) (List.range 4) = vec fun i => g i + if c i = true then v else 0 := by
  rw [bumpAll_go c v _ g (fun p hp => List.mem_range.mp hp) List.nodup_range]
  refine vec_congr fun i hi => ?_
  simp [hi]
theorem fold_vec {α : Type} {step : List Int → α → List Int} {δ : α → Nat → Int} : ∀ (xs : List α) (g : Nat → Int), (∀ x ∈ xs, ∀ g, step (vec g) x = vec fun i => g i + δ x i) → xs.foldl step (vec g) = vec fun i => g i + (xs.map (δ · i)).sum
  | [], g, _ => by simp
  | x :: xs, g, h => by
    rw [List.foldl_cons, h x (List.mem_cons_self ..), fold_vec xs _ fun y hy => h y (List.mem_cons_of_mem _ hy)]
    refine vec_congr fun i _ => ?_
    rw [List.map_cons, List.sum_cons, Int.add_assoc]
theorem zeros : ([0, 0, 0, 0] : List Int) = vec fun _ => 0 := rfl

/-! sums that are linear in V -/
noncomputable def lev (V : Nat → Int) (l : List (Int × Nat)) : Int := (l.map fun x => x.1 * V x.2).sum
noncomputable def coef (l : List (Int × Nat)) (s : Nat) : Int := (l.map fun x => if x.2 = s then x.1 else 0).sum
theorem lev_cons (V : Nat → Int) (x : Int × Nat) (l : List (Int × Nat)) : lev V (x :: l) = x.1 * V x.2 + lev V l := rfl
theorem lev_append (V : Nat → Int) : ∀ l m, lev V (l ++ m) = lev V l + lev V m
  | [], m => by simp [lev]
  | x :: l, m => by rw [List.cons_append, lev_cons, lev_append V l m, lev_cons, Int.add_assoc]
theorem lev_flat {α : Type} (V : Nat → Int) (f : α → List (Int × Nat)) : ∀ xs : List α, lev V (xs.flatMap f) = (xs.map fun x => lev V (f x)).sum
  | [] => rfl
  | x :: xs => by rw [List.flatMap_cons, lev_append, lev_flat V f xs]; rfl
theorem sum_point (V : Nat → Int) (c : Int) (s : Nat) : ∀ n, ((List.range n).map fun t => (if s = t then c else 0) * V t).sum = if s < n then c * V s else 0
  | 0 => rfl
  | n + 1 => by
    rw [List.range_succ, List.map_append, List.sum_append, sum_point V c s n]
    by_cases e : s = n
    · subst e; simp
    · by_cases h : s < n
      · have : s < n + 1 := by omega
        simp [e, h, this]
      · have : ¬ s < n + 1 := by omega
        simp [e, h, this]
theorem sum_add {α : Type} (f g : α → Int) : ∀ xs : List α, (xs.map fun x => f x + g x).sum = (xs.map f).sum + (xs.map g).sum
  | [] => rfl
  | x :: xs => by simp only [List.map_cons, List.sum_cons, sum_add f g xs]; omega
theorem lev_coef (V : Nat → Int) : ∀ l : List (Int × Nat), (∀ x ∈ l, x.2 < 16) → lev V l = ((List.range 16).map fun s => coef l s * V s).sum
  | [], _ => by
    have z : ∀ l : List Nat, (l.map fun s => coef [] s * V s).sum = 0 := fun l => by
      induction l with
      | nil => rfl
      | cons s l ih => rw [List.map_cons, List.sum_cons, ih]; simp [coef]
    rw [z]; rfl
  | x :: l, h => by
    rw [lev_cons, lev_coef V l fun y hy => h y (List.mem_cons_of_mem _ hy)]
    have hx := h x (List.mem_cons_self ..)
    have e : (fun s => coef (x :: l) s * V s) = fun s => (if x.2 = s then x.1 else 0) * V s + coef l s * V s := funext fun s => by
      show ((if x.2 = s then x.1 else 0) + coef l s) * V s = _
      rw [Int.add_mul]
    rw [e, sum_add, sum_point, if_pos hx]
theorem lev_eq {V : Nat → Int} {l m : List (Int × Nat)} (hl : l.all (fun x => decide (x.2 < 16)) = true) (hm : m.all (fun x => decide (x.2 < 16)) = true) (h : (List.range 16).all (fun s => decide (coef l s = coef m s)) = true) : lev V l = lev V m := by
  simp only [List.all_eq_true, decide_eq_true_eq] at hl hm h
  rw [lev_coef V l hl, lev_coef V m hm, List.map_congr_left fun s hs => by rw [h s hs]]

/-! what a point gets of a game -/
noncomputable def del (i S : Nat) : Nat := if S.testBit i then S - 2 ^ i else S
noncomputable def roomL (i : Nat) : List (Int × Nat) := picksR.flatMap fun pick => [(partR pick, pick), (-partR pick, del i pick)]
noncomputable def orderL (i : Nat) : Nat → List Nat → List (Int × Nat)
  | _, [] => []
  | h, q :: r => (if q = i then [(1, h ||| 2 ^ q), (-1, h)] else []) ++ orderL i (h ||| 2 ^ q) r
theorem orders_rooms (V : Nat → Int) {i : Nat} (hi : i < 4) : lev V (ordersF.flatMap (orderL i 0)) = lev V (roomL i) := by
  have key : ∀ i : Fin 4, (ordersF.flatMap (orderL i.val 0)).all (fun x => decide (x.2 < 16)) = true ∧ (roomL i.val).all (fun x => decide (x.2 < 16)) = true ∧ (List.range 16).all (fun s => decide (coef (ordersF.flatMap (orderL i.val 0)) s = coef (roomL i.val) s)) = true := by decide +kernel
  obtain ⟨a, b, c⟩ := key ⟨i, hi⟩
  exact lev_eq a b c

/-! by orders -/
section
variable {M : List Nat}
noncomputable def val (M : List Nat) (S : Nat) : Int := if winB M S then 1 else 0
theorem win_mono {a b : Nat} (h : winB M a = true) (hab : ∀ i, a.testBit i = true → b.testBit i = true) : winB M b = true := by
  unfold winB at h ⊢
  rw [List.any_eq_true] at h ⊢
  obtain ⟨m, hm, e⟩ := h
  rw [decide_eq_true_eq, sub_bits] at e
  exact ⟨m, hm, by rw [decide_eq_true_eq, sub_bits]; exact fun i hi => hab i (e i hi)⟩
theorem or_bits {a b i : Nat} (h : a.testBit i = true) : (a ||| b).testBit i = true := by rw [Nat.testBit_or, h]; rfl
theorem order_won (i : Nat) : ∀ (o : List Nat) (h : Nat), winB M h = true → lev (val M) (orderL i h o) = 0
  | [], h, _ => rfl
  | q :: r, h, hw => by
    have hw2 : winB M (h ||| 2 ^ q) = true := win_mono hw fun i hi => or_bits hi
    rw [orderL, lev_append, order_won i r _ hw2]
    split
    · simp [lev, val, hw, hw2]
    · rfl
theorem order_lev (i : Nat) : ∀ (o : List Nat) (h : Nat), winB M h = false → lev (val M) (orderL i h o) = if piv M h o = some i then 1 else 0
  | [], h, _ => rfl
  | q :: r, h, hw => by
    rw [orderL, lev_append, piv]
    cases hq : winB M (h ||| 2 ^ q) with
    | true =>
      rw [order_won i r _ hq, if_pos rfl]
      by_cases e : q = i
      · subst e; simp [lev, val, hw, hq]
      · have : ¬ some q = some i := fun z => e (Option.some.inj z)
        rw [if_neg e, if_neg this]; rfl
    | false =>
      simp only [Bool.false_eq_true, if_false]
      rw [order_lev i r _ hq]
      by_cases e : q = i
      · rw [if_pos e]; simp [lev, val, hw, hq]
      · rw [if_neg e]; simp [lev]
theorem piv_mem : ∀ (o : List Nat) (h : Nat) {p : Nat}, piv M h o = some p → p ∈ o
  | q :: r, h, p, e => by
    rw [piv] at e
    split at e
    · cases e; exact List.mem_cons_self ..
    · exact List.mem_cons_of_mem _ (piv_mem r _ e)
theorem byOrders_vec (h0 : winB M 0 = false) : byOrders M = vec fun i => lev (val M) (roomL i) := by
  unfold byOrders
  rw [zeros, fold_vec (δ := fun o i => if piv M 0 o = some i then 1 else 0) ordersF _ fun o ho g => ?_]
  · refine vec_congr fun i hi => ?_
    rw [Int.zero_add, ← orders_rooms (val M) hi, lev_flat]
    congr 1
    exact List.map_congr_left fun o _ => (order_lev i o 0 h0).symm
  · unfold orderStep
    cases hp : piv M 0 o with
    | none => simp
    | some p =>
      simp only []
      rw [vec_bump g (orders_lt o ho p (piv_mem o 0 hp))]
      refine vec_congr fun i _ => ?_
      by_cases e : i = p
      · subst e; simp
      · have : ¬ p = i := fun z => e z.symm
        simp [e, this]
end

/-! by rooms -/
section
variable {L : List Group} (hf : ∀ g ∈ L, Fine g)
theorem mem_room {pick q : Nat} : [q] ∈ roomF pick ↔ q < 4 ∧ pick.testBit q = true := by
  unfold roomF
  rw [List.mem_map]
  have pb : ∀ q, pickB q pick = pick.testBit q := fun q => by rw [pickB, Nat.testBit_eq_decide_div_mod_eq]
  constructor
  · rintro ⟨x, hx, e⟩
    cases e
    obtain ⟨h1, h2⟩ := List.mem_filter.mp hx
    exact ⟨List.mem_range.mp h1, by rw [← pb]; exact h2⟩
  · rintro ⟨h1, h2⟩
    exact ⟨q, List.mem_filter.mpr ⟨List.mem_range.mpr h1, by rw [pb]; exact h2⟩, rfl⟩
include hf
theorem mem_inside {pick : Nat} {g : Group} : g ∈ insideF L pick ↔ g ∈ L ∧ inS g pick := by
  unfold insideF
  rw [List.mem_filter, decide_eq_true_eq, List.filter_eq_nil_iff]
  refine and_congr_right fun hg => ⟨fun h q hq => ?_, fun h x hx => ?_⟩
  · have := h _ hq
    rw [Bool.not_eq_true, Bool.not_eq_false', decide_eq_true_eq] at this
    exact (mem_room.mp this).2
  · obtain ⟨q, rfl, hq⟩ := (hf g hg).2 x hx
    rw [Bool.not_eq_true, Bool.not_eq_false', decide_eq_true_eq]
    exact mem_room.mpr ⟨hq, h q hx⟩
omit hf in
theorem del_bit {i S j : Nat} (hS : S < 16) (hi : i < 4) : (del i S).testBit j = (S.testBit j && !decide (j = i)) := by
  by_cases hj : j < 4
  · have key : ∀ S : Fin 16, ∀ i : Fin 4, ∀ j : Fin 4, (del i.val S.val).testBit j.val = (S.val.testBit j.val && !decide (j.val = i.val)) := by decide +kernel
    exact key ⟨S, hS⟩ ⟨i, hi⟩ ⟨j, hj⟩
  · have h2 : 16 ≤ 2 ^ j := Nat.pow_le_pow_right (n := 2) (by decide) (show 4 ≤ j by omega)
    have h3 : del i S ≤ S := by
      unfold del
      split
      · exact Nat.sub_le ..
      · exact Nat.le_refl _
    rw [Nat.testBit_lt_two_pow (Nat.lt_of_le_of_lt h3 (Nat.lt_of_lt_of_le hS h2)), Nat.testBit_lt_two_pow (Nat.lt_of_lt_of_le hS h2)]; rfl
theorem held_iff {pick p : Nat} : heldB L pick p = true ↔ ∀ g ∈ insideF L pick, [p] ∈ g := by
  unfold heldB
  rw [decide_eq_true_eq]
  have hc : ∀ l : List Group, (∀ g ∈ l, Fine g) → cnt (l.flatMap fun g => g) [p] ≤ l.length ∧ (cnt (l.flatMap fun g => g) [p] = l.length ↔ ∀ g ∈ l, [p] ∈ g) := by
    intro l
    induction l with
    | nil => intro _; simp [cnt]
    | cons g l ih =>
      intro h
      obtain ⟨i1, i2⟩ := ih fun x hx => h x (List.mem_cons_of_mem _ hx)
      have hg : cnt g [p] = if [p] ∈ g then 1 else 0 := by
        have hn := (h g (List.mem_cons_self ..)).1
        clear ih i1 i2 h
        induction g with
        | nil => rfl
        | cons x g ih =>
          have hn' := List.nodup_cons.mp hn
          have ih := ih hn'.2
          unfold cnt at ih ⊢
          by_cases e : x = [p]
          · subst e
            rw [if_neg hn'.1] at ih
            simp [List.filter_cons, ih]
          · have e' : ¬ [p] = x := fun z => e z.symm
            simp [List.filter_cons, e, e', ih]
      have ha : cnt ((g :: l).flatMap fun g => g) [p] = cnt g [p] + cnt (l.flatMap fun g => g) [p] := by unfold cnt; rw [List.flatMap_cons, List.filter_append, List.length_append]
      rw [ha, hg, List.length_cons]
      by_cases q : [p] ∈ g
      · rw [if_pos q]
        refine ⟨by omega, ?_⟩
        simp only [List.mem_cons, forall_eq_or_imp, q, true_and]
        rw [← i2]; omega
      · rw [if_neg q]
        refine ⟨by omega, ?_⟩
        simp only [List.mem_cons, forall_eq_or_imp, q, false_and, iff_false]
        omega
  exact (hc _ fun g hg => hf g ((mem_inside hf).mp hg).1).2
theorem held_win {M : List Nat} (hw : ∀ S, winB M S = true ↔ ∃ g ∈ L, inS g S) {pick p : Nat} (hk : pick < 16) (hp4 : p < 4) : heldB L pick p = !winB M (del p pick) := by
  rw [Bool.eq_iff_iff, held_iff hf, Bool.not_eq_true', ← Bool.not_eq_true, hw]
  constructor
  · rintro h ⟨g, hg, hs⟩
    have hp := h g ((mem_inside hf).mpr ⟨hg, fun q hq => by have := hs q hq; rw [del_bit hk hp4, Bool.and_eq_true] at this; exact this.1⟩)
    have := hs p hp
    rw [del_bit hk hp4] at this; simp at this
  · intro h g hg
    obtain ⟨h1, h2⟩ := (mem_inside hf).mp hg
    by_cases q : [p] ∈ g
    · exact q
    · refine absurd ⟨g, h1, fun r hr => ?_⟩ h
      rw [del_bit hk hp4, h2 r hr]
      have : ¬ r = p := fun e => q (e ▸ hr)
      simp [this]
theorem byRooms_vec {M : List Nat} (hw : ∀ S, winB M S = true ↔ ∃ g ∈ L, inS g S) : byRooms L = vec fun i => lev (val M) (roomL i) := by
  unfold byRooms
  rw [zeros, fold_vec (δ := fun pick i => lev (val M) [(partR pick, pick), (-partR pick, del i pick)]) picksR _ fun pick hp g => ?_]
  · refine vec_congr fun i hi => ?_
    rw [Int.zero_add, roomL, lev_flat]
  · have hk : pick < 16 := by
      obtain ⟨x, hx, rfl⟩ := List.mem_map.mp hp
      have := List.mem_range.mp hx; omega
    have hin : insideF L pick = [] ↔ winB M pick = false := by
      rw [← Bool.not_eq_true, hw, List.eq_nil_iff_forall_not_mem]
      exact ⟨fun h ⟨g, hg, hs⟩ => h g ((mem_inside hf).mpr ⟨hg, hs⟩), fun h g hg => h ⟨g, (mem_inside hf).mp hg⟩⟩
    unfold roomStep
    split
    · rename_i h
      have h1 := hin.mp h
      refine vec_congr fun i hi => ?_
      have h2 : winB M (del i pick) = false := by
        rw [← Bool.not_eq_true]; intro z
        have := win_mono z (b := pick) fun j hj => by rw [del_bit hk hi, Bool.and_eq_true] at hj; exact hj.1
        rw [h1] at this; cases this
      simp [lev, val, h1, h2]
    · rename_i h
      have h1 : winB M pick = true := by
        cases z : winB M pick with
        | true => rfl
        | false => exact absurd (hin.mpr z) h
      rw [vec_bumpAll]
      refine vec_congr fun i hi => ?_
      rw [held_win hf hw hk hi]
      cases z : winB M (del i pick) with
      | true => simp [lev, val, h1, z]; omega
      | false => simp [lev, val, h1, z]
end
end L01
end Mine
end

section
namespace Mine
open PySem PySem.W PyProof.Rows
namespace L01

/-! by unions -/
/-- the number of a set's points -/
noncomputable def pc (m : Nat) : Nat := ((List.range 4).filter fun q => m.testBit q).length
/-- what a point gets where all of m are needed -/
noncomputable def phi (i m : Nat) : Int := if m.testBit i then 24 / (pc m : Int) else 0
noncomputable def needs (m : Nat) (S : Nat) : Int := if m &&& S = m then 1 else 0
noncomputable def Phi (i : Nat) (V : Nat → Int) : Int := lev V (roomL i)
theorem phi_eq {i m : Nat} (hi : i < 4) (hm : m < 16) : Phi i (needs m) = phi i m := by
  have key : ∀ i : Fin 4, ∀ m : Fin 16, Phi i.val (needs m.val) = phi i.val m.val := by decide +kernel
  exact key ⟨i, hi⟩ ⟨m, hm⟩
theorem lev_add (V W : Nat → Int) : ∀ l, lev (fun S => V S + W S) l = lev V l + lev W l
  | [] => rfl
  | x :: l => by rw [lev_cons, lev_add V W l, lev_cons, lev_cons, Int.mul_add]; omega
theorem lev_mul (c : Int) (V : Nat → Int) : ∀ l, lev (fun S => c * V S) l = c * lev V l
  | [] => by simp [lev]
  | x :: l => by rw [lev_cons, lev_mul c V l, lev_cons, Int.mul_add, Int.mul_left_comm]
/-- the sum over all parts of a list of sets -/
noncomputable def alt (i : Nat) : List Nat → Nat → Int → Int
  | [], acc, s => s * phi i acc
  | m :: Ms, acc, s => alt i Ms acc s + alt i Ms (acc ||| m) (-s)
noncomputable def altV : List Nat → Nat → Int → Nat → Int
  | [], acc, s, S => s * needs acc S
  | m :: Ms, acc, s, S => altV Ms acc s S + altV Ms (acc ||| m) (-s) S
theorem alt_Phi {i : Nat} (hi : i < 4) : ∀ (Ms : List Nat) (acc : Nat) (s : Int), acc < 16 → (∀ m ∈ Ms, m < 16) → alt i Ms acc s = Phi i (altV Ms acc s)
  | [], acc, s, ha, _ => by
    show s * phi i acc = Phi i (fun S => s * needs acc S)
    unfold Phi
    rw [lev_mul, ← phi_eq hi ha]; rfl
  | m :: Ms, acc, s, ha, hm => by
    have hm0 := hm m (List.mem_cons_self ..)
    have hor : acc ||| m < 16 := Nat.or_lt_two_pow (n := 4) ha hm0
    rw [alt, alt_Phi hi Ms acc s ha fun x hx => hm x (List.mem_cons_of_mem _ hx), alt_Phi hi Ms _ (-s) hor fun x hx => hm x (List.mem_cons_of_mem _ hx)]
    show _ = Phi i (fun S => altV Ms acc s S + altV Ms (acc ||| m) (-s) S)
    unfold Phi
    rw [lev_add]
theorem needs_or {a m S : Nat} : (a ||| m) &&& S = a ||| m ↔ a &&& S = a ∧ m &&& S = m := by
  rw [sub_bits, sub_bits, sub_bits]
  simp only [Nat.testBit_or, Bool.or_eq_true]
  exact ⟨fun h => ⟨fun i q => h i (.inl q), fun i q => h i (.inr q)⟩, fun ⟨h1, h2⟩ i q => q.elim (h1 i) (h2 i)⟩
theorem altV_eq (S : Nat) : ∀ (Ms : List Nat) (acc : Nat) (s : Int), altV Ms acc s S = if acc &&& S = acc ∧ ∀ m ∈ Ms, ¬ m &&& S = m then s else 0
  | [], acc, s => by
    unfold altV needs
    by_cases h : acc &&& S = acc <;> simp [h]
  | m :: Ms, acc, s => by
    rw [altV, altV_eq S Ms acc s, altV_eq S Ms (acc ||| m) (-s)]
    simp only [needs_or, List.mem_cons, forall_eq_or_imp]
    by_cases h1 : acc &&& S = acc <;> by_cases h2 : m &&& S = m <;> by_cases h3 : ∀ x ∈ Ms, ¬ x &&& S = x <;> simp [h1, h2, h3]
    all_goals first | omega | (split <;> omega)

/-! the picks -/
noncomputable def chM : List Nat → Nat → List Nat
  | [], _ => []
  | m :: Ms, pick => (if pick % 2 = 1 then [m] else []) ++ chM Ms (pick / 2)
noncomputable def orAll (acc : Nat) (ms : List Nat) : Nat := ms.foldl (fun a m => a ||| m) acc
noncomputable def sgn (n : Nat) : Int := if n % 2 = 0 then 1 else -1
theorem sum_double (f : Nat → Int) : ∀ n, ((List.range (2 * n)).map f).sum = ((List.range n).map fun q => f (2 * q) + f (2 * q + 1)).sum
  | 0 => rfl
  | n + 1 => by
    rw [show 2 * (n + 1) = 2 * n + 1 + 1 from rfl, List.range_succ, List.range_succ, List.map_append, List.map_append, List.sum_append, List.sum_append, sum_double f n, List.range_succ, List.map_append, List.sum_append]
    simp only [List.map_cons, List.map_nil, List.sum_cons, List.sum_nil]
    omega
theorem sgn_succ (n : Nat) : sgn (n + 1) = -sgn n := by
  unfold sgn
  by_cases h : n % 2 = 0
  · have : ¬ (n + 1) % 2 = 0 := by omega
    simp [h, this]
  · have : (n + 1) % 2 = 0 := by omega
    simp [h, this]
theorem alt_picks (i : Nat) : ∀ (Ms : List Nat) (acc : Nat) (s : Int), ((List.range (2 ^ Ms.length)).map fun pick => s * sgn (chM Ms pick).length * phi i (orAll acc (chM Ms pick))).sum = alt i Ms acc s
  | [], acc, s => by simp [chM, orAll, alt, sgn]
  | m :: Ms, acc, s => by
    rw [List.length_cons, Nat.pow_succ, Nat.mul_comm, sum_double, alt, ← alt_picks i Ms acc s, ← alt_picks i Ms (acc ||| m) (-s), ← sum_add]
    congr 1
    refine List.map_congr_left fun q _ => ?_
    have e1 : 2 * q % 2 = 0 := by omega
    have e2 : 2 * q / 2 = q := by omega
    have e3 : (2 * q + 1) % 2 = 1 := by omega
    have e4 : (2 * q + 1) / 2 = q := by omega
    have c1 : chM (m :: Ms) (2 * q) = chM Ms q := by rw [chM, e1, e2]; rfl
    have c2 : chM (m :: Ms) (2 * q + 1) = m :: chM Ms q := by rw [chM, e3, e4]; rfl
    rw [c1, c2, List.length_cons, sgn_succ]
    show _ + s * -sgn _ * phi i (orAll (acc ||| m) (chM Ms q)) = _ + -s * sgn _ * _
    rw [Int.mul_neg, ← Int.neg_mul]
theorem phi_zero (i : Nat) : phi i 0 = 0 := by unfold phi; rw [Nat.zero_testBit]; rfl
theorem chM_zero : ∀ Ms : List Nat, chM Ms 0 = []
  | [] => rfl
  | m :: Ms => by rw [chM, chM_zero Ms]; rfl

/-! groups and their masks -/
noncomputable def gm (g : Group) : Nat := mask (g.map fun x => x.headD 0)
theorem gm_bit {g : Group} (hf : Fine g) (q : Nat) : (gm g).testBit q = decide ([q] ∈ g) := by
  unfold gm
  rw [mask_bit]
  refine decide_eq_decide.mpr ?_
  rw [List.mem_map]
  constructor
  · rintro ⟨x, hx, rfl⟩
    obtain ⟨r, rfl, _⟩ := hf.2 x hx
    exact hx
  · intro h
    exact ⟨[q], h, rfl⟩
theorem mask_lt : ∀ (r : List Nat) (m : Nat), m < 16 → (∀ q ∈ r, q < 4) → r.foldl (fun m q => m ||| 2 ^ q) m < 16
  | [], m, hm, _ => hm
  | q :: r, m, hm, h => by
    have hq : 2 ^ q < 2 ^ 4 := Nat.pow_lt_pow_right (by decide) (h q (List.mem_cons_self ..))
    exact mask_lt r _ (Nat.or_lt_two_pow (n := 4) hm hq) fun x hx => h x (List.mem_cons_of_mem _ hx)
theorem gm_lt {g : Group} (hf : Fine g) : gm g < 16 := by
  refine mask_lt _ 0 (by decide) fun q hq => ?_
  obtain ⟨x, hx, rfl⟩ := List.mem_map.mp hq
  obtain ⟨r, rfl, hr⟩ := hf.2 x hx
  exact hr
theorem gm_in {g : Group} (hf : Fine g) (S : Nat) : gm g &&& S = gm g ↔ inS g S := by
  rw [sub_bits]
  simp only [gm_bit hf, decide_eq_true_eq]
  exact .rfl
theorem chosen_cons (g : Group) (L : List Group) (pick : Nat) : chosenF (g :: L) pick = (if pick % 2 = 1 then [g] else []) ++ chosenF L (pick / 2) := by
  unfold chosenF
  rw [List.length_cons, List.range_succ_eq_map, List.filter_cons]
  have pb : ∀ k, pickB (k + 1) pick = pickB k (pick / 2) := fun k => by
    unfold pickB
    rw [Nat.div_div_eq_div_mul, Nat.pow_succ, Nat.mul_comm 2]
  have e : ((List.map Nat.succ (List.range L.length)).filter fun k => pickB k pick).map (fun k => (g :: L).getD k []) = ((List.range L.length).filter fun k => pickB k (pick / 2)).map fun k => L.getD k [] := by
    rw [List.filter_map, List.map_map]
    have : ((fun k => pickB k pick) ∘ Nat.succ) = fun k => pickB k (pick / 2) := funext pb
    rw [this]
    rfl
  have p0 : pickB 0 pick = decide (pick % 2 = 1) := by unfold pickB; rw [Nat.pow_zero, Nat.div_one]
  rw [p0]
  by_cases h : pick % 2 = 1
  · rw [if_pos (decide_eq_true h), if_pos h, List.map_cons, e]; rfl
  · rw [if_neg (by simpa using h), if_neg h, e]; rfl
theorem chosen_masks : ∀ (L : List Group) (pick : Nat), (chosenF L pick).map gm = chM (L.map gm) pick
  | [], _ => rfl
  | g :: L, pick => by
    rw [chosen_cons, List.map_append, chosen_masks L, List.map_cons, chM]
    by_cases h : pick % 2 = 1 <;> simp [h]
theorem orAll_bit (q : Nat) : ∀ (ms : List Nat) (acc : Nat), (orAll acc ms).testBit q = (acc.testBit q || ms.any fun m => m.testBit q)
  | [], acc => by simp [orAll]
  | m :: ms, acc => by
    show (orAll (acc ||| m) ms).testBit q = _
    rw [orAll_bit q ms, Nat.testBit_or, List.any_cons, Bool.or_assoc]

section
variable {L : List Group} (hf : ∀ g ∈ L, Fine g)
include hf
theorem union_bit (pick q : Nat) : (orAll 0 (chM (L.map gm) pick)).testBit q = decide ([q] ∈ unionF L pick) := by
  rw [orAll_bit, ← chosen_masks, Nat.zero_testBit, Bool.false_or, List.any_map, Bool.eq_iff_iff, List.any_eq_true, decide_eq_true_eq]
  unfold unionF
  rw [mem_dedup, List.mem_flatMap]
  refine exists_congr fun g => and_congr_right fun hg => ?_
  simp only [Function.comp, gm_bit (hf g (chosen_mem hg)), decide_eq_true_eq]
theorem union_len (pick : Nat) : (unionF L pick).length = pc (orAll 0 (chM (L.map gm) pick)) := by
  unfold pc
  have hp : (unionF L pick).Perm (((List.range 4).filter fun q => (orAll 0 (chM (L.map gm) pick)).testBit q).map fun q => [q]) := by
    refine (List.perm_ext_iff_of_nodup (nodup_dedup _) ?_).mpr fun x => ?_
    · exact List.Pairwise.map _ (fun a b h e => h (by simpa using e)) ((List.nodup_range).filter _)
    · rw [List.mem_map]
      constructor
      · intro hx
        have hx' := hx
        unfold unionF at hx'
        rw [mem_dedup, List.mem_flatMap] at hx'
        obtain ⟨g, hg, hxg⟩ := hx'
        obtain ⟨q, rfl, hq⟩ := (hf g (chosen_mem hg)).2 x hxg
        exact ⟨q, List.mem_filter.mpr ⟨List.mem_range.mpr hq, by rw [union_bit hf, decide_eq_true_eq]; exact hx⟩, rfl⟩
      · rintro ⟨q, hq, rfl⟩
        have := (List.mem_filter.mp hq).2
        rw [union_bit hf, decide_eq_true_eq] at this
        exact this
  rw [hp.length_eq, List.length_map]
theorem byUnions_vec {M : List Nat} (hw : ∀ S, winB M S = true ↔ ∃ g ∈ L, inS g S) : byUnions L = vec fun i => lev (val M) (roomL i) := by
  unfold byUnions
  rw [zeros, fold_vec (δ := fun pick i => -1 * sgn (chM (L.map gm) pick).length * phi i (orAll 0 (chM (L.map gm) pick))) (picksU L) _ fun pick hp g => ?_]
  · refine vec_congr fun i hi => ?_
    have hlt : ∀ m ∈ L.map gm, m < 16 := fun m hm => by
      obtain ⟨g, hg, rfl⟩ := List.mem_map.mp hm
      exact gm_lt (hf g hg)
    have h1 := alt_picks i (L.map gm) 0 (-1)
    rw [alt_Phi hi _ 0 (-1) (by decide) hlt, List.length_map] at h1
    have h2 : 2 ^ L.length = (2 ^ L.length - 1) + 1 := by have := Nat.one_le_two_pow (n := L.length); omega
    have h3 : ((List.range (2 ^ L.length)).map fun pick => -1 * sgn (chM (L.map gm) pick).length * phi i (orAll 0 (chM (L.map gm) pick))).sum = ((picksU L).map fun pick => -1 * sgn (chM (L.map gm) pick).length * phi i (orAll 0 (chM (L.map gm) pick))).sum := by
      rw [h2, List.range_succ_eq_map, List.map_cons, List.sum_cons, chM_zero, List.map_map]
      unfold picksU
      rw [List.map_map]
      have z : phi i (orAll 0 []) = 0 := phi_zero i
      rw [z, Int.mul_zero, Int.zero_add]
      congr 1
      refine List.map_congr_left fun k _ => ?_
      simp only [Function.comp, Nat.succ_eq_add_one, Nat.add_comm 1]
    rw [Int.zero_add, ← h3, h1]
    unfold Phi
    have h4 : altV (L.map gm) 0 (-1) = fun S => val M S + -1 * 1 := funext fun S => by
      rw [altV_eq]
      have hk : (0 &&& S = 0 ∧ ∀ m ∈ L.map gm, ¬ m &&& S = m) ↔ ¬ winB M S = true := by
        rw [hw, Nat.zero_and]
        refine ⟨fun ⟨_, h⟩ ⟨g, hg, hs⟩ => h _ (List.mem_map.mpr ⟨g, hg, rfl⟩) ((gm_in (hf g hg) S).mpr hs), fun h => ⟨rfl, fun m hm => ?_⟩⟩
        obtain ⟨g, hg, rfl⟩ := List.mem_map.mp hm
        exact fun q => h ⟨g, hg, (gm_in (hf g hg) S).mp q⟩
      unfold val
      by_cases q : winB M S = true
      · rw [if_neg (fun z => hk.mp z q), if_pos q]; rfl
      · rw [if_pos (hk.mpr q), if_neg q]; rfl
    have hone : ∀ i : Fin 4, lev (fun _ => -1 * 1) (roomL i.val) = 0 := by decide +kernel
    rw [h4, lev_add, hone ⟨i, hi⟩, Int.add_zero]
  · unfold unionStep
    rw [vec_bumpAll]
    refine vec_congr fun i _ => ?_
    have hl : (chosenF L pick).length = (chM (L.map gm) pick).length := by rw [← chosen_masks, List.length_map]
    unfold phi partU
    rw [union_bit hf, ← union_len hf, ← hl]
    unfold sgn
    by_cases a : [i] ∈ unionF L pick
    · by_cases b : (chosenF L pick).length % 2 = 0
      · simp [a, b]
      · simp [a, b]
    · simp [a]
end

/-! the law -/
theorem law_holds (ns : List Int) (hl : ns.length ≤ 63) : evDef tab (Gfix tab defs 10) [16] b_law [.list (ns.map .raw)] = some (.bool true) := by
  obtain ⟨hF, hs⟩ := figs_small ns
  have hf : ∀ g ∈ leastF (rowsF (figsF ns)), Fine g := fun g hg => fine hF hs hg
  have hw := win_iff hF
  have h0 : winB (masksF (figsF ns)) 0 = false := by
    rw [← Bool.not_eq_true, hw]
    rintro ⟨g, hg, h⟩
    obtain ⟨x, hx⟩ := List.exists_mem_of_ne_nil _ ((groups hF hs).2 g hg).2
    obtain ⟨q, rfl, _⟩ := (hf g hg).2 x hx
    have := h q hx
    rw [Nat.zero_testBit] at this; cases this
  refine law_walk ns hl (figsF ns) rfl (fact1 hF) (fact2 hF hs) (groups hF hs) ?_ ?_
  · rw [byUnions_vec hf hw, byOrders_vec h0]
  · rw [byRooms_vec hf hw, byOrders_vec h0]
end L01
end Mine
end

section
namespace Mine
open PySem PySem.W PyProof.Rows

namespace L01

open PySem.W.X
theorem law_true (ns : List Int) (hl : ns.length ≤ 63) : evDef tab (Gfix tab defs 10) [16] b_law [.list (ns.map .raw)] = some (.bool true) := law_holds ns hl
set_option maxHeartbeats 8000000 in
theorem top : PySem.Challenge.rw_wn0002_01.Holds := by
  w_on
  o_law
  z_head
  case hw => w_witness2
  k_fill
  intro w s₀ s₁ mg mb G y fa o pm cd doc dV kV ho hd hcd hD hmg hg args vals as L hpre hlay hrd hwl hlo
  z_open y L KX ZH ZN ZT
  refine Ground.open G ?_
  intro T B D TE TW
  wrow_args hpre hlay hrd hwl hlo
  have htk := script_toks L ZT
  clear hd hcd B D TE TW G hD
  rename_i ns _ _ _ _ _ _ _ l vs _ hl _ _ _ hi _ hc _
  have hdefs := defsOk_of (q := PySem.Challenge.pw_wn0002_01) T (by kernel_rfl) recs fits binds
  refine law_call (i := 17) (n := 10) (ns := ns) T KX (by k_is) (by
    intro x hx
    simp only [List.mem_cons, List.not_mem_nil, or_false] at hx
    rcases hx with rfl | rfl | rfl | rfl | rfl | rfl | rfl | rfl <;> k_is) tabOk hdefs rfl (by decide) hmg hl hi (Nat.lt_of_lt_of_le (by decide) htk) (law_true ns (by omega)) fun h' tk k => ?_
  exact ⟨.inl ⟨_, .bool true, [], rfl, fun _ => rfl, .bool true, by wrow_post, fun _ => ⟨.nil, fun _ ha => nomatch ha⟩⟩, .of_keep k, rfl, .of_eq hg⟩
end L01
end Mine
end

open PySem PySem.W PyProof.Rows
theorem PySem.Challenge.cw_wn0002_01_holds : PySem.Challenge.rw_wn0002_01.Holds := by
  exact Mine.L01.top
