import PyProof.Rows.All
import Wide.All
import OpenK.AllK
import Wide.FinOn
import Lean
import PySem.Challenge.RW_wn0002_02
set_option Elab.async false
set_option maxRecDepth 100000
set_option linter.unusedVariables false
set_option linter.unusedSimpArgs false

section
namespace Mine
open PySem PySem.W PyProof.Rows

set_option genSizeOf false
set_option genInjectivity false
inductive Ex4 {A0 A1 A2 A3 : Type} (P : A0 → A1 → A2 → A3 → Prop) : Prop where
  | mk (a0 : A0) (a1 : A1) (a2 : A2) (a3 : A3) (h : P a0 a1 a2 a3)
inductive Ex6 {A0 A1 A2 A3 A4 A5 : Type} (P : A0 → A1 → A2 → A3 → A4 → A5 → Prop) : Prop where
  | mk (a0 : A0) (a1 : A1) (a2 : A2) (a3 : A3) (a4 : A4) (a5 : A5) (h : P a0 a1 a2 a3 a4 a5)
inductive Ex7 {A0 A1 A2 A3 A4 A5 A6 : Type} (P : A0 → A1 → A2 → A3 → A4 → A5 → A6 → Prop) : Prop where
  | mk (a0 : A0) (a1 : A1) (a2 : A2) (a3 : A3) (a4 : A4) (a5 : A5) (a6 : A6) (h : P a0 a1 a2 a3 a4 a5 a6)
inductive And7 (p0 p1 p2 p3 p4 p5 p6 : Prop) : Prop where
  | mk (h0 : p0) (h1 : p1) (h2 : p2) (h3 : p3) (h4 : p4) (h5 : p5) (h6 : p6)
inductive And10 (p0 p1 p2 p3 p4 p5 p6 p7 p8 p9 : Prop) : Prop where
  | mk (h0 : p0) (h1 : p1) (h2 : p2) (h3 : p3) (h4 : p4) (h5 : p5) (h6 : p6) (h7 : p7) (h8 : p8) (h9 : p9)
inductive And12 (p0 p1 p2 p3 p4 p5 p6 p7 p8 p9 p10 p11 : Prop) : Prop where
  | mk (h0 : p0) (h1 : p1) (h2 : p2) (h3 : p3) (h4 : p4) (h5 : p5) (h6 : p6) (h7 : p7) (h8 : p8) (h9 : p9) (h10 : p10) (h11 : p11)
set_option genSizeOf true
set_option genInjectivity true
/-- what the fragment's values are read as; raw: an int of whose token nothing is known -/
inductive D where
  | none
  | bool (b : Bool)
  | int (i : Int)
  | raw (i : Int)
  | str (x : Str)
  | list (ds : List D)
  | tuple (ds : List D)
mutual
noncomputable def toP : D → PyData
  | .none => .none
  | .bool b => .bool b
  | .int i => .int i
  | .raw i => .int i
  | .str x => .str x
  | .list ds => .list (toPs ds)
  | .tuple ds => .tuple (toPs ds)
noncomputable def toPs : List D → List PyData
  | [] => []
  | d :: ds => toP d :: toPs ds
end
/-- the number that an int is -/
noncomputable def D.num : D → Option Int
  | .int i => some i
  | .raw i => some i
  | _ => Option.none

set_option genSizeOf false
set_option genInjectivity false
/-- binary operators of the fragment -/
inductive BO where
  | add | sub | mod | fdiv | shl | shr | band | bor | pow
inductive CO where
  | eq | ne | lt | gt | isin | notin | is | isnot

noncomputable def BO.op : BO → Operator
  | .add => .Add | .sub => .Sub | .mod => .Mod | .fdiv => .FloorDiv | .shl => .LShift | .shr => .RShift | .band => .BitAnd | .bor => .BitOr | .pow => .Pow
noncomputable def CO.op : CO → CmpOp
  | .eq => .Eq | .ne => .NotEq | .lt => .Lt | .gt => .Gt | .isin => .In | .notin => .NotIn | .is => .Is | .isnot => .IsNot

inductive Tgt where
  | one (i : Nat) (p : Pos)
  | tup (is : List (Nat × Pos)) (p : Pos)

mutual
inductive C where
  | int (n : Int) (p : Pos)
  | str (s : String) (p : Pos)
  | bool (b : Bool) (p : Pos)
  | var (i : Nat) (p : Pos)
  | list (es : Cs) (p : Pos)
  | tuple (es : Cs) (p : Pos)
  | bin (o : BO) (a b : C) (p : Pos)
  | neg (a : C) (p : Pos)
  | not (a : C) (p : Pos)
  | notL (i : Nat) (pi p : Pos)
  | cmp (o : CO) (a b : C) (p : Pos)
  | and2 (a b : C) (p : Pos)
  | and3 (a b c : C) (p : Pos)
  | or2 (a b : C) (p : Pos)
  | isOrEq (i j : Nat) (pi pj qi qj p1 p2 p : Pos)
  | ite (t a b : C) (p : Pos)
  | item (a i : C) (p : Pos)
  | slice (a lo hi st : C) (ps p : Pos)
  | nothing
  | call (f : Nat) (args : Cs) (pf p : Pos)
  | sum (a : C) (pf p : Pos)
  | len (a : C) (pf p : Pos)
  | min2 (a b : C) (pf p : Pos)
  | max1 (a : C) (pf p : Pos)
  | join (a b : C) (pm p : Pos)
  | index (a b : C) (pm p : Pos)
  | comp (elt : C) (g : Gs) (sc : Scope) (p : Pos)
inductive Cs where
  | nil
  | cons (c : C) (r : Cs)
/-- the clauses of a comprehension -/
inductive Gs where
  | done
  | gen (t : Tgt) (it : It) (ifs : Cs) (r : Gs)
/-- what a loop or a clause goes over -/
inductive It where
  | range1 (a : C) (pf p : Pos)
  | range2 (a b : C) (pf p : Pos)
  | enum (a : C) (pf p : Pos)
  | of (a : C)
end

mutual
inductive S where
  | assign (x : Nat) (e : C) (px p : Pos)
  | own (x : Nat) (es : Cs) (pe px p : Pos)
  | setitem (x : Nat) (i e : C) (px ps p : Pos)
  | append (x : Nat) (e : C) (px pa p : Pos)
  | extend (x : Nat) (e : C) (px pa p : Pos)
  | aug (x : Nat) (e : C) (px p : Pos)
  | ite (t : C) (a b : Ss) (p : Pos)
  | for (t : Tgt) (it : It) (body : Ss) (p : Pos)
  | ret (e : C) (p : Pos)
  | brk (p : Pos)
  | copy (x : Nat) (e : C) (pf pc px p : Pos)
  | ownComp (x : Nat) (elt : C) (t : Tgt) (it : It) (ifs : Cs) (r : Gs) (sc : Scope) (pc px p : Pos)
  | tryRemove (t y e : Nat) (pe py pt pa pn pc pf pv pk pr ph p : Pos)
inductive Ss where
  | nil
  | cons (s : S) (r : Ss)
end

set_option genSizeOf true
set_option genInjectivity true
section toE
variable (tab : Nat → Str)

noncomputable def Tgt.toE : Tgt → Expr
  | .one i p => .Name (tab i) p
  | .tup is p => .Tuple (is.map fun x => .Name (tab x.1) x.2) 0 p

mutual
noncomputable def C.toE : C → Expr
  | .int n p => .Constant (.int n) 0 p
  | .str s p => .Constant (.str (Str.ofString s)) 0 p
  | .bool b p => .Constant (.bool b) 0 p
  | .var i p => .Name (tab i) p
  | .list es p => .List es.toE p
  | .tuple es p => .Tuple es.toE 0 p
  | .bin o a b p => .BinOp a.toE o.op b.toE p
  | .neg a p => .UnaryOp .USub a.toE p
  | .not a p => .UnaryOp .Not a.toE p
  | .notL i pi p => .UnaryOp .Not (.Name (tab i) pi) p
  | .cmp o a b p => .Compare a.toE [o.op] [b.toE] p
  | .and2 a b p => .BoolOp .And [a.toE, b.toE] p
  | .and3 a b c p => .BoolOp .And [a.toE, b.toE, c.toE] p
  | .or2 a b p => .BoolOp .Or [a.toE, b.toE] p
  | .isOrEq i j pi pj qi qj p1 p2 p => .BoolOp .Or [.Compare (.Name (tab i) pi) [.Is] [.Name (tab j) pj] p1, .Compare (.Name (tab i) qi) [.Eq] [.Name (tab j) qj] p2] p
  | .ite t a b p => .IfExp t.toE a.toE b.toE p
  | .item a i p => .Subscript a.toE i.toE p
  | .slice a lo hi st ps p => .Subscript a.toE (.Slice lo.toO hi.toO st.toO ps) p
  | .nothing => .Constant .none 0 default
  | .call f args pf p => .Call (.Name (tab f) pf) args.toE [] p
  | .sum a pf p => .Call (.Name "sum" pf) [a.toE] [] p
  | .len a pf p => .Call (.Name "len" pf) [a.toE] [] p
  | .min2 a b pf p => .Call (.Name "min" pf) [a.toE, b.toE] [] p
  | .max1 a pf p => .Call (.Name "max" pf) [a.toE] [] p
  | .join a b pm p => .Call (.Attribute a.toE "join" pm) [b.toE] [] p
  | .index a b pm p => .Call (.Attribute a.toE "index" pm) [b.toE] [] p
  | .comp elt g sc p => .ListComp elt.toE g.toE sc p
/-- a part of a slice -/
noncomputable def C.toO : C → Option Expr
  | .nothing => none
  | .int n p => some (.Constant (.int n) 0 p)
  | .var i p => some (.Name (tab i) p)
  | .bin o a b p => some (.BinOp a.toE o.op b.toE p)
  | .neg a p => some (.UnaryOp .USub a.toE p)
  | _ => none
noncomputable def Cs.toE : Cs → List Expr
  | .nil => []
  | .cons c r => c.toE :: r.toE
noncomputable def Gs.toE : Gs → List Comprehension
  | .done => []
  | .gen t it ifs r => ⟨t.toE tab, it.toE, ifs.toE, 0⟩ :: r.toE
noncomputable def It.toE : It → Expr
  | .range1 a pf p => .Call (.Name "range" pf) [a.toE] [] p
  | .range2 a b pf p => .Call (.Name "range" pf) [a.toE, b.toE] [] p
  | .enum a pf p => .Call (.Name "enumerate" pf) [a.toE] [] p
  | .of a => a.toE
end

mutual
noncomputable def S.toE : S → Stmt
  | .assign x e px p => .Assign [.Name (tab x) px] (e.toE tab) p
  | .own x es pe px p => .Assign [.Name (tab x) px] (.List (es.toE tab) pe) p
  | .setitem x i e px ps p => .Assign [.Subscript (.Name (tab x) px) (i.toE tab) ps] (e.toE tab) p
  | .append x e px pa p => .Expr (.Call (.Attribute (.Name (tab x) px) "append" pa) [e.toE tab] [] p) p
  | .extend x e px pa p => .Expr (.Call (.Attribute (.Name (tab x) px) "extend" pa) [e.toE tab] [] p) p
  | .aug x e px p => .AugAssign (.Name (tab x) px) .Add (e.toE tab) p
  | .ite t a b p => .If (t.toE tab) a.toE b.toE p
  | .for t it body p => .For (t.toE tab) (it.toE tab) body.toE [] p
  | .ret e p => .Return (some (e.toE tab)) p
  | .brk p => .Break p
  | .ownComp x elt t it ifs r sc pc px p => .Assign [.Name (tab x) px] ((C.comp elt (.gen t it ifs r) sc pc).toE tab) p
  | .copy x e pf pc px p => .Assign [.Name (tab x) px] (.Call (.Name "list" pf) [e.toE tab] [] pc) p
  | .tryRemove t y e pe py pt pa pn pc pf pv pk pr ph p => .Try [.For (.Name (tab e) pe) (.Name (tab y) py) [.Expr (.Call (.Attribute (.Name (tab t) pt) "remove" pa) [.Name (tab e) pn] [] pc) pc] [] pf]
      [.ExceptHandler (some (.Name "ValueError" pv)) none [.Return (some (.Constant (.bool false) 0 pk)) pr] ph] [] [] p
noncomputable def Ss.toE : Ss → List Stmt
  | .nil => []
  | .cons s r => s.toE :: r.toE
end
end toE

/-! the evaluator -/

noncomputable def lim : Nat := 1000000

noncomputable def mkList (ds : List D) : Option D := if ds.length ≤ lim then some (.list ds) else none

noncomputable abbrev Vw := Nat → Option D
noncomputable abbrev Or := Nat → List D → Option D
noncomputable def upd {α : Type} (f : Nat → Option α) (i : Nat) (a : α) : Nat → Option α := fun j => if j = i then some a else f j

noncomputable def okD (d : D) : Bool := decide ((toP d).depth ≤ 50)
noncomputable def eqD (a b : D) : Option Bool := if okD a && okD b then some (PyData.eqv (toP a) (toP b)) else none
noncomputable def inD (x : D) (xs : List D) : Option Bool := if okD x && okD (.list xs) then some (xs.any fun y => PyData.eqv (toP y) (toP x)) else none
/-- the kinds upon which «is» is asked ahead of «==» -/
noncomputable def isKind : D → D → Bool
  | .int _, .int _ => true
  | .str _, .str _ => true
  | .bool _, .bool _ => true
  | .list _, .list _ => true
  | _, _ => false

noncomputable def binI : BO → Int → Int → Option Int
  | .add, a, b => some (a + b)
  | .sub, a, b => some (a - b)
  | .mod, a, b => if 0 < b then some (a % b) else none
  | .fdiv, a, b => if 0 < b ∧ b < 1000000 then some (a / b) else none
  | .shl, a, b => if 0 ≤ a ∧ a < 1000000 ∧ 0 ≤ b ∧ b ≤ 1000 then some (a * 2 ^ b.toNat) else none
  | .shr, a, b => if 0 ≤ b then some (a / 2 ^ b.toNat) else none
  | .band, a, b => if 0 ≤ a ∧ 0 ≤ b then some ((a.toNat &&& b.toNat : Nat) : Int) else none
  | .bor, a, b => if 0 ≤ a ∧ 0 ≤ b then some ((a.toNat ||| b.toNat : Nat) : Int) else none
  | .pow, a, b => if 0 ≤ a ∧ a < 1000000 ∧ 0 ≤ b ∧ b ≤ 1000 then some (a ^ b.toNat) else none
noncomputable def numsD (f : Int → Int → Option D) (a b : D) : Option D := match a.num with
  | some x => match b.num with
    | some y => f x y
    | none => none
  | none => none
noncomputable def addD : D → D → Option D
  | .list a, .list b => mkList (a ++ b)
  | .str a, .str b => if a.length + b.length ≤ lim then some (.str (a ++ b)) else none
  | a, b => numsD (fun x y => some (.int (x + y))) a b
noncomputable def binD (o : BO) (a b : D) : Option D := match o with
  | .add => addD a b
  | o => numsD (fun x y => (binI o x y).map .int) a b

noncomputable def hasSub (p : List Nat) : List Nat → Bool
  | [] => p.isEmpty
  | c :: l => p.isPrefixOf (c :: l) || hasSub p l
/-- is x part of y -/
noncomputable def strIn (x y : Str) : Bool := hasSub x.cps.toList y.cps.toList

noncomputable def cmpD (o : CO) (a b : D) : Option D := match o with
  | .eq => (eqD a b).map .bool
  | .ne => (eqD a b).map fun c => .bool (!c)
  | .lt => numsD (fun x y => some (.bool (decide (x < y)))) a b
  | .gt => numsD (fun x y => some (.bool (decide (y < x)))) a b
  | .isin => match b with
    | .list ys => (inD a ys).map .bool
    | .str y => match a with
      | .str x => some (.bool (strIn x y))
      | _ => none
    | _ => none
  | .notin => match b with
    | .list ys => (inD a ys).map fun c => .bool (!c)
    | _ => none
  | .is => match a, b with
    | .bool x, .bool y => some (.bool (x == y))
    | _, _ => none
  | .isnot => match a, b with
    | .bool x, .bool y => some (.bool (!(x == y)))
    | _, _ => none

noncomputable def itemD (a i : D) : Option D := match i.num with
  | some i => if 0 ≤ i then (match a with
    | .list xs => if xs.length ≤ lim then xs[i.toNat]? else none
    | .str x => if x.length ≤ lim then x.cps.toList[i.toNat]?.map fun c => .str ⟨#[c]⟩ else none
    | _ => none) else none
  | none => none

/-- every (c+1)-th of a list, from its first on: k counts what is to be passed by -/
noncomputable def strideL {α : Type} (c : Nat) : Nat → List α → List α
  | _, [] => []
  | 0, x :: l => x :: strideL c c l
  | k + 1, _ :: l => strideL c k l

/-- a part of a slice: nothing, or an int -/
noncomputable def D.part : D → Option (Option Int)
  | .none => some Option.none
  | .int i => some (some i)
  | .raw i => some (some i)
  | _ => Option.none
noncomputable def sliceL {α : Type} (l : List α) : Option Int → Option Int → Option Int → Option (List α)
  | none, none, none => some l
  | some a, none, none => if 0 ≤ a then some (l.drop a.toNat) else none
  | none, some b, none => if 0 ≤ b then some (l.take b.toNat) else none
  | some a, some b, none => if 0 ≤ a ∧ 0 ≤ b then some ((l.take b.toNat).drop a.toNat) else none
  | none, none, some c => if c = -1 then some l.reverse else none
  | some a, some b, some c => if 0 ≤ a ∧ 0 ≤ b ∧ 0 < c then some (strideL (c.toNat - 1) 0 ((l.take b.toNat).drop a.toNat)) else none
  | _, _, _ => none

noncomputable def sliceD (x lo hi st : D) : Option D := lo.part.bind fun lo => hi.part.bind fun hi => st.part.bind fun st => match x with
  | .list xs => if xs.length ≤ lim then (sliceL xs lo hi st).map .list else none
  | .str x => match lo, hi, st with
    | some a, some b, none => if 0 ≤ a ∧ a ≤ b ∧ b ≤ x.length ∧ x.length ≤ lim then some (.str ⟨((x.cps.toList.drop a.toNat).take (b.toNat - a.toNat)).toArray⟩) else none
    | none, none, some c => if c = -1 ∧ x.length ≤ lim then some (.str ⟨x.cps.toList.reverse.toArray⟩) else none
    | _, _, _ => none
  | _ => none

noncomputable def intsOf : List D → Option (List Int)
  | [] => some []
  | d :: r => d.num.bind fun i => (intsOf r).map (i :: ·)
noncomputable def strsOf : List D → Option (List Str)
  | [] => some []
  | .str x :: r => (strsOf r).map (x :: ·)
  | _ => none

noncomputable def sumD : D → Option D
  | .list xs => (intsOf xs).map fun ns => .raw ns.sum
  | _ => none
noncomputable def lenD : D → Option D
  | .list xs => if xs.length ≤ lim then some (.int xs.length) else none
  | .str x => if x.length ≤ lim then some (.int x.length) else none
  | _ => none
noncomputable def minD : D → D → Option D
  | .int a, .int b => some (.int (if b < a then b else a))
  | _, _ => none
/-- all tracked ints -/
noncomputable def ints' : List D → Option (List Int)
  | [] => some []
  | .int i :: r => (ints' r).map (i :: ·)
  | _ => none
noncomputable def maxL : Int → List Int → Int
  | m, [] => m
  | m, x :: r => maxL (if m < x then x else m) r
noncomputable def maxD : D → Option D
  | .list xs => match ints' xs with
    | some (n :: ns) => if xs.length ≤ lim then some (.int (maxL n ns)) else none
    | _ => none
  | _ => none
noncomputable def joinD : D → D → Option D
  | .str s, .list xs => match strsOf xs with
    | some ys => if s.length = 0 ∧ ((ys.map (·.length)).sum ≤ lim) then some (.str ⟨(ys.flatMap (·.cps.toList)).toArray⟩) else none
    | none => none
  | _, _ => none
noncomputable def indexD : D → D → Option D
  | .str x, .str y => if x.cps.toList = [97, 98, 99] then (match y.cps.toList with
    | [97] => some (.int 0)
    | [98] => some (.int 1)
    | [99] => some (.int 2)
    | _ => none) else none
  | _, _ => none

noncomputable def rangeL (a : Int) : Nat → List D
  | 0 => []
  | n + 1 => .int a :: rangeL (a + 1) n
noncomputable def range2I (a b : Int) : Option (List D) := if -lim ≤ a ∧ a ≤ lim ∧ -lim ≤ b ∧ b ≤ lim then some (rangeL a (b - a).toNat) else none
noncomputable def range1D (a : D) : Option (List D) := a.num.bind fun n => range2I 0 n
noncomputable def range2D (a b : D) : Option (List D) := a.num.bind fun x => b.num.bind fun y => range2I x y
noncomputable def enumL (i : Int) : List D → List D
  | [] => []
  | x :: r => .tuple [.int i, x] :: enumL (i + 1) r
noncomputable def enumD : D → Option (List D)
  | .list xs => if xs.length ≤ lim then some (enumL 0 xs) else none
  | _ => none
noncomputable def itemsD : D → Option (List D)
  | .list xs => if xs.length ≤ lim then some xs else none
  | .str x => if x.cps.toList.all (· < 128) && decide (x.length ≤ lim) then some (x.cps.toList.map fun c => .str ⟨#[c]⟩) else none
  | _ => none

noncomputable def bindAll : List (Nat × Pos) → List D → Vw → Option Vw
  | [], [], ρ => some ρ
  | x :: is, d :: ds, ρ => bindAll is ds (upd ρ x.1 d)
  | _, _, _ => none
noncomputable def bindT : Tgt → D → Vw → Option Vw
  | .one i _, d, ρ => some (upd ρ i d)
  | .tup is _, .tuple ds, ρ => bindAll is ds ρ
  | .tup is _, .list ds, ρ => bindAll is ds ρ
  | _, _, _ => none

/-- what a clause brings, put one behind the other -/
noncomputable def collectM (f : D → Option (List D)) : List D → Option (List D)
  | [] => some []
  | d :: ds => match f d with
    | some a => match collectM f ds with
      | some b => some (a ++ b)
      | none => none
    | none => none

noncomputable def boolOf : Option D → Option Bool
  | some (.bool b) => some b
  | _ => none

/-- the names that a comprehension's block takes from outside -/
noncomputable def keepFree (tab : Nat → Str) (sc : Scope) (ρ : Vw) : Vw := fun i => match sc.names.lookup (tab i) with
  | some .free => ρ i
  | _ => none

section
variable (tab : Nat → Str) (G : Or)
mutual
noncomputable def ev : C → Vw → Option D
  | .int n _, _ => some (.int n)
  | .str s _, _ => some (.str (Str.ofString s))
  | .bool b _, _ => some (.bool b)
  | .var i _, ρ => ρ i
  | .list es _, ρ => (evs es ρ).bind mkList
  | .tuple es _, ρ => (evs es ρ).bind fun ds => if ds.length ≤ lim then some (.tuple ds) else none
  | .bin o a b _, ρ => (ev a ρ).bind fun x => (ev b ρ).bind fun y => binD o x y
  | .neg a _, ρ => (ev a ρ).bind fun x => x.num.map fun n => .int (-n)
  | .not a _, ρ => (boolOf (ev a ρ)).map fun b => .bool (!b)
  | .notL i _ _, ρ => match ρ i with
    | some (.list xs) => if xs.length ≤ lim then some (.bool xs.isEmpty) else none
    | _ => none
  | .cmp o a b _, ρ => (ev a ρ).bind fun x => (ev b ρ).bind fun y => cmpD o x y
  | .and2 a b _, ρ => (boolOf (ev a ρ)).bind fun x => if x then ev b ρ else some (.bool false)
  | .and3 a b c _, ρ => (boolOf (ev a ρ)).bind fun x => if x then (boolOf (ev b ρ)).bind fun y => if y then ev c ρ else some (.bool false) else some (.bool false)
  | .or2 a b _, ρ => (boolOf (ev a ρ)).bind fun x => if x then some (.bool true) else ev b ρ
  | .isOrEq i j _ _ _ _ _ _ _, ρ => (ρ i).bind fun x => (ρ j).bind fun y => if isKind x y then (eqD x y).map .bool else none
  | .ite t a b _, ρ => (boolOf (ev t ρ)).bind fun x => if x then ev a ρ else ev b ρ
  | .item a i _, ρ => (ev a ρ).bind fun x => (ev i ρ).bind fun y => itemD x y
  | .slice a lo hi st _ _, ρ => (ev a ρ).bind fun x => (ev lo ρ).bind fun l => (ev hi ρ).bind fun h => (ev st ρ).bind fun t => sliceD x l h t
  | .nothing, _ => some .none
  | .call f args _ _, ρ => (evs args ρ).bind fun ds => G f ds
  | .sum a _ _, ρ => (ev a ρ).bind sumD
  | .len a _ _, ρ => (ev a ρ).bind lenD
  | .min2 a b _ _, ρ => (ev a ρ).bind fun x => (ev b ρ).bind fun y => minD x y
  | .max1 a _ _, ρ => (ev a ρ).bind maxD
  | .join a b _ _, ρ => (ev a ρ).bind fun x => (ev b ρ).bind fun y => joinD x y
  | .index a b _ _, ρ => (ev a ρ).bind fun x => (ev b ρ).bind fun y => indexD x y
  | .comp elt g sc _, ρ => match g with
    | .done => none
    | .gen t it ifs r => (evIt it ρ).bind fun ds => (collectM (fun d => (bindT t d (keepFree tab sc ρ)).bind fun ρ' => (evIfs ifs ρ').bind fun ok => if ok then evGs r (ev elt) ρ' else some []) ds).bind mkList
noncomputable def evs : Cs → Vw → Option (List D)
  | .nil, _ => some []
  | .cons c r, ρ => (ev c ρ).bind fun x => (evs r ρ).map (x :: ·)
noncomputable def evIfs : Cs → Vw → Option Bool
  | .nil, _ => some true
  | .cons c r, ρ => (boolOf (ev c ρ)).bind fun x => if x then evIfs r ρ else some false
noncomputable def evGs : Gs → (Vw → Option D) → Vw → Option (List D)
  | .done, elt, ρ => (elt ρ).map fun x => [x]
  | .gen t it ifs r, elt, ρ => (evIt it ρ).bind fun ds => collectM (fun d => (bindT t d ρ).bind fun ρ' => (evIfs ifs ρ').bind fun ok => if ok then evGs r elt ρ' else some []) ds
noncomputable def evIt : It → Vw → Option (List D)
  | .range1 a _ _, ρ => (ev a ρ).bind range1D
  | .range2 a b _ _, ρ => (ev a ρ).bind fun x => (ev b ρ).bind fun y => range2D x y
  | .enum a _ _, ρ => (ev a ρ).bind enumD
  | .of a, ρ => (ev a ρ).bind itemsD
end
end

/-! statements -/
noncomputable abbrev St := Nat → Option (Bool × D)
inductive Fl where
  | next | brk
  | ret (d : D)

noncomputable def St.frozen (σ : St) : Vw := fun i => match σ i with | some (false, d) => some d | _ => none
noncomputable def St.full (σ : St) : Vw := fun i => (σ i).map (·.2)
noncomputable def scalar : D → Bool
  | .none | .bool _ | .int _ | .raw _ | .str _ => true
  | _ => false
/-- a value that may be kept: nothing of it turns any more -/
noncomputable def evK (f : Vw → Option D) (σ : St) : Option D := match f σ.frozen with
  | some d => some d
  | none => match f σ.full with
    | some d => if scalar d then some d else none
    | none => none
noncomputable def bindS (t : Tgt) (d : D) (σ : St) : Option St := match t with
  | .one i _ => some (upd σ i (false, d))
  | .tup is _ => match d with
    | .tuple ds => go is ds σ
    | .list ds => go is ds σ
    | _ => none
where go : List (Nat × Pos) → List D → St → Option St
  | [], [], σ => some σ
  | x :: is, d :: ds, σ => go is ds (upd σ x.1 (false, d))
  | _, _, _ => none

noncomputable def loopM (step : D → St → Option (St × Fl)) : List D → St → Option (St × Fl)
  | [], σ => some (σ, .next)
  | d :: ds, σ => match step d σ with
    | some (σ', .next) => loopM step ds σ'
    | some (σ', .brk) => some (σ', .next)
    | some (σ', .ret v) => some (σ', .ret v)
    | none => none

/-- a list without the first of it that equals x -/
noncomputable def eraseFst (x : D) : List D → Option (List D)
  | [] => none
  | y :: r => if PyData.eqv (toP y) (toP x) then some r else (eraseFst x r).map (y :: ·)
/-- t.remove(e), where a ValueError ends in «return False» -/
noncomputable def remStep (t e : Nat) (σ : St) : Option (St × Fl) := match σ e with
  | some (false, d) => match σ t with
    | some (true, .list ds) => if okD d && okD (.list ds) && decide (ds.length ≤ lim) then (match eraseFst d ds with
      | some r => some (upd σ t (true, .list r), .next)
      | none => some (σ, .ret (.bool false))) else none
    | _ => none
  | _ => none

section
variable (tab : Nat → Str) (G : Or)
noncomputable def iterS (it : It) (σ : St) : Option (List D × St) := match evIt tab G it σ.frozen with
  | some ds => some (ds, σ)
  | none => match it with
    | .of (.var x _) => match σ x with
      | some (true, .list ds) => if ds.length ≤ lim then some (ds, upd σ x (false, .list ds)) else none
      | _ => none
    | _ => none
mutual
noncomputable def exS : S → St → Option (St × Fl)
  | .assign x e _ _, σ => (evK (ev tab G e) σ).map fun d => (upd σ x (false, d), .next)
  | .own x es _ _ _, σ => (evs tab G es σ.frozen).bind fun ds => if ds.length ≤ lim then some (upd σ x (true, .list ds), .next) else none
  | .setitem x i e _ _ _, σ => (evK (ev tab G e) σ).bind fun d => match σ x with
    | some (true, .list ds) => (ev tab G i σ.frozen).bind fun k => k.num.bind fun k => if 0 ≤ k ∧ k < ds.length ∧ ds.length ≤ lim then some (upd σ x (true, .list (ds.set k.toNat d)), .next) else none
    | _ => none
  | .append x e _ _ _, σ => (evK (ev tab G e) σ).bind fun d => match σ x with
    | some (true, .list ds) => if ds.length ≤ lim then some (upd σ x (true, .list (ds ++ [d])), .next) else none
    | _ => none
  | .extend x e _ _ _, σ => (ev tab G e σ.frozen).bind fun d => match d with
    | .list es => match σ x with
      | some (true, .list ds) => if ds.length + es.length ≤ lim then some (upd σ x (true, .list (ds ++ es)), .next) else none
      | _ => none
    | _ => none
  | .aug x e _ _, σ => match σ x with
    | some (false, d₀) => d₀.num.bind fun a => (ev tab G e σ.frozen).bind fun d => d.num.map fun b => (upd σ x (false, .int (a + b)), .next)
    | _ => none
  | .ite t a b _, σ => (boolOf (ev tab G t σ.full)).bind fun c => if c then exs a σ else exs b σ
  | .for t it body _, σ => (iterS tab G it σ).bind fun p => loopM (fun d σ' => (bindS t d σ').bind fun σ'' => exs body σ'') p.1 p.2
  | .ret e _, σ => (ev tab G e σ.full).map fun d => (σ, .ret d)
  | .brk _, σ => some (σ, .brk)
  | .copy x e _ _ _ _, σ => (ev tab G e σ.frozen).bind fun d => match d with
    | .list es => if es.length ≤ lim then some (upd σ x (true, .list es), .next) else none
    | _ => none
  | .ownComp x elt t it ifs r sc pc _ _, σ => (ev tab G (.comp elt (.gen t it ifs r) sc pc) σ.frozen).bind fun d => match d with
    | .list es => some (upd σ x (true, .list es), .next)
    | _ => none
  | .tryRemove t y e _ pY _ _ _ _ _ _ _ _ _ _, σ => (evIt tab G (.of (.var y pY)) σ.frozen).bind fun ds => loopM (fun d σ' => (bindS (.one e pY) d σ').bind fun σ'' => remStep t e σ'') ds σ
noncomputable def exs : Ss → St → Option (St × Fl)
  | .nil, σ => some (σ, .next)
  | .cons s r, σ => match exS s σ with
    | some (σ', .next) => exs r σ'
    | x => x
end


section
variable {tab : Nat → Str} {G : Or}
theorem ev_e1 {n q1 q2} : ev tab G (.int n q1) q2 = (some (.int n)) := rfl
theorem ev_e2 {s q1 q2} : ev tab G (.str s q1) q2 = (some (.str (Str.ofString s))) := rfl
theorem ev_e3 {b q1 q2} : ev tab G (.bool b q1) q2 = (some (.bool b)) := rfl
theorem ev_e4 {i q1 ρ} : ev tab G (.var i q1) ρ = (ρ i) := rfl
theorem ev_e5 {es q1 ρ} : ev tab G (.list es q1) ρ = ((evs tab G es ρ).bind mkList) := rfl
theorem ev_e6 {es q1 ρ} : ev tab G (.tuple es q1) ρ = ((evs tab G es ρ).bind fun ds => if ds.length ≤ lim then some (.tuple ds) else none) := rfl
theorem ev_e7 {o a b q1 ρ} : ev tab G (.bin o a b q1) ρ = ((ev tab G a ρ).bind fun x => (ev tab G b ρ).bind fun y => binD o x y) := rfl
theorem ev_e8 {a q1 ρ} : ev tab G (.neg a q1) ρ = ((ev tab G a ρ).bind fun x => x.num.map fun n => .int (-n)) := rfl
theorem ev_e9 {a q1 ρ} : ev tab G (.not a q1) ρ = ((boolOf (ev tab G a ρ)).map fun b => .bool (!b)) := rfl
theorem ev_e10 {i q1 q2 ρ} : ev tab G (.notL i q1 q2) ρ = (match ρ i with
    | some (.list xs) => if xs.length ≤ lim then some (.bool xs.isEmpty) else none
    | _ => none) := rfl
theorem ev_e11 {o a b q1 ρ} : ev tab G (.cmp o a b q1) ρ = ((ev tab G a ρ).bind fun x => (ev tab G b ρ).bind fun y => cmpD o x y) := rfl
theorem ev_e12 {a b q1 ρ} : ev tab G (.and2 a b q1) ρ = ((boolOf (ev tab G a ρ)).bind fun x => if x then ev tab G b ρ else some (.bool false)) := rfl
theorem ev_e13 {a b c q1 ρ} : ev tab G (.and3 a b c q1) ρ = ((boolOf (ev tab G a ρ)).bind fun x => if x then (boolOf (ev tab G b ρ)).bind fun y => if y then ev tab G c ρ else some (.bool false) else some (.bool false)) := rfl
theorem ev_e14 {a b q1 ρ} : ev tab G (.or2 a b q1) ρ = ((boolOf (ev tab G a ρ)).bind fun x => if x then some (.bool true) else ev tab G b ρ) := rfl
theorem ev_e15 {i j q1 q2 q3 q4 q5 q6 q7 ρ} : ev tab G (.isOrEq i j q1 q2 q3 q4 q5 q6 q7) ρ = ((ρ i).bind fun x => (ρ j).bind fun y => if isKind x y then (eqD x y).map .bool else none) := rfl
theorem ev_e16 {t a b q1 ρ} : ev tab G (.ite t a b q1) ρ = ((boolOf (ev tab G t ρ)).bind fun x => if x then ev tab G a ρ else ev tab G b ρ) := rfl
theorem ev_e17 {a i q1 ρ} : ev tab G (.item a i q1) ρ = ((ev tab G a ρ).bind fun x => (ev tab G i ρ).bind fun y => itemD x y) := rfl
theorem ev_e18 {a lo hi st q1 q2 ρ} : ev tab G (.slice a lo hi st q1 q2) ρ = ((ev tab G a ρ).bind fun x => (ev tab G lo ρ).bind fun l => (ev tab G hi ρ).bind fun h => (ev tab G st ρ).bind fun t => sliceD x l h t) := rfl
theorem ev_e19 {q1} : ev tab G .nothing q1 = (some .none) := rfl
theorem ev_e20 {f args q1 q2 ρ} : ev tab G (.call f args q1 q2) ρ = ((evs tab G args ρ).bind fun ds => G f ds) := rfl
theorem ev_e21 {a q1 q2 ρ} : ev tab G (.sum a q1 q2) ρ = ((ev tab G a ρ).bind sumD) := rfl
theorem ev_e22 {a q1 q2 ρ} : ev tab G (.len a q1 q2) ρ = ((ev tab G a ρ).bind lenD) := rfl
theorem ev_e23 {a b q1 q2 ρ} : ev tab G (.min2 a b q1 q2) ρ = ((ev tab G a ρ).bind fun x => (ev tab G b ρ).bind fun y => minD x y) := rfl
theorem ev_e24 {a q1 q2 ρ} : ev tab G (.max1 a q1 q2) ρ = ((ev tab G a ρ).bind maxD) := rfl
theorem ev_e25 {a b q1 q2 ρ} : ev tab G (.join a b q1 q2) ρ = ((ev tab G a ρ).bind fun x => (ev tab G b ρ).bind fun y => joinD x y) := rfl
theorem ev_e26 {a b q1 q2 ρ} : ev tab G (.index a b q1 q2) ρ = ((ev tab G a ρ).bind fun x => (ev tab G b ρ).bind fun y => indexD x y) := rfl
theorem ev_e27 {elt sc q1 ρ} : ev tab G (.comp elt .done sc q1) ρ = (none) := rfl
theorem ev_e28 {elt t it ifs r sc q1 ρ} : ev tab G (.comp elt (.gen t it ifs r) sc q1) ρ = ((evIt tab G it ρ).bind fun ds => (collectM (fun d => (bindT t d (keepFree tab sc ρ)).bind fun ρ' => (evIfs tab G ifs ρ').bind fun ok => if ok then evGs tab G r (ev tab G elt) ρ' else some []) ds).bind mkList) := rfl
theorem evs_e1 {q1} : evs tab G .nil q1 = (some []) := rfl
theorem evs_e2 {c r ρ} : evs tab G (.cons c r) ρ = ((ev tab G c ρ).bind fun x => (evs tab G r ρ).map (x :: ·)) := rfl
theorem evIfs_e1 {q1} : evIfs tab G .nil q1 = (some true) := rfl
theorem evIfs_e2 {c r ρ} : evIfs tab G (.cons c r) ρ = ((boolOf (ev tab G c ρ)).bind fun x => if x then evIfs tab G r ρ else some false) := rfl
theorem evGs_e1 {elt ρ} : evGs tab G .done elt ρ = ((elt ρ).map fun x => [x]) := rfl
theorem evGs_e2 {t it ifs r elt ρ} : evGs tab G (.gen t it ifs r) elt ρ = ((evIt tab G it ρ).bind fun ds => collectM (fun d => (bindT t d ρ).bind fun ρ' => (evIfs tab G ifs ρ').bind fun ok => if ok then evGs tab G r elt ρ' else some []) ds) := rfl
theorem evIt_e1 {a q1 q2 ρ} : evIt tab G (.range1 a q1 q2) ρ = ((ev tab G a ρ).bind range1D) := rfl
theorem evIt_e2 {a b q1 q2 ρ} : evIt tab G (.range2 a b q1 q2) ρ = ((ev tab G a ρ).bind fun x => (ev tab G b ρ).bind fun y => range2D x y) := rfl
theorem evIt_e3 {a q1 q2 ρ} : evIt tab G (.enum a q1 q2) ρ = ((ev tab G a ρ).bind enumD) := rfl
theorem evIt_e4 {a ρ} : evIt tab G (.of a) ρ = ((ev tab G a ρ).bind itemsD) := rfl
theorem exS_e1 {x e q1 q2 σ} : exS tab G (.assign x e q1 q2) σ = ((evK (ev tab G e) σ).map fun d => (upd σ x (false, d), .next)) := rfl
theorem exS_e2 {x es q1 q2 q3 σ} : exS tab G (.own x es q1 q2 q3) σ = ((evs tab G es σ.frozen).bind fun ds => if ds.length ≤ lim then some (upd σ x (true, .list ds), .next) else none) := rfl
theorem exS_e3 {x i e q1 q2 q3 σ} : exS tab G (.setitem x i e q1 q2 q3) σ = ((evK (ev tab G e) σ).bind fun d => match σ x with
    | some (true, .list ds) => (ev tab G i σ.frozen).bind fun k => k.num.bind fun k => if 0 ≤ k ∧ k < ds.length ∧ ds.length ≤ lim then some (upd σ x (true, .list (ds.set k.toNat d)), .next) else none
    | _ => none) := rfl
theorem exS_e4 {x e q1 q2 q3 σ} : exS tab G (.append x e q1 q2 q3) σ = ((evK (ev tab G e) σ).bind fun d => match σ x with
    | some (true, .list ds) => if ds.length ≤ lim then some (upd σ x (true, .list (ds ++ [d])), .next) else none
    | _ => none) := rfl
theorem exS_e5 {x e q1 q2 q3 σ} : exS tab G (.extend x e q1 q2 q3) σ = ((ev tab G e σ.frozen).bind fun d => match d with
    | .list es => match σ x with
      | some (true, .list ds) => if ds.length + es.length ≤ lim then some (upd σ x (true, .list (ds ++ es)), .next) else none
      | _ => none
    | _ => none) := rfl
theorem exS_e6 {x e q1 q2 σ} : exS tab G (.aug x e q1 q2) σ = (match σ x with
    | some (false, d₀) => d₀.num.bind fun a => (ev tab G e σ.frozen).bind fun d => d.num.map fun b => (upd σ x (false, .int (a + b)), .next)
    | _ => none) := rfl
theorem exS_e7 {t a b q1 σ} : exS tab G (.ite t a b q1) σ = ((boolOf (ev tab G t σ.full)).bind fun c => if c then exs tab G a σ else exs tab G b σ) := rfl
theorem exS_e8 {t it body q1 σ} : exS tab G (.for t it body q1) σ = ((iterS tab G it σ).bind fun p => loopM (fun d σ' => (bindS t d σ').bind fun σ'' => exs tab G body σ'') p.1 p.2) := rfl
theorem exS_e9 {e q1 σ} : exS tab G (.ret e q1) σ = ((ev tab G e σ.full).map fun d => (σ, .ret d)) := rfl
theorem exS_e10 {q1 σ} : exS tab G (.brk q1) σ = (some (σ, .brk)) := rfl
theorem exS_e11 {x e q1 q2 q3 q4 σ} : exS tab G (.copy x e q1 q2 q3 q4) σ = ((ev tab G e σ.frozen).bind fun d => match d with
    | .list es => if es.length ≤ lim then some (upd σ x (true, .list es), .next) else none
    | _ => none) := rfl
theorem exS_e12 {x elt t it ifs r sc pc q1 q2 σ} : exS tab G (.ownComp x elt t it ifs r sc pc q1 q2) σ = ((ev tab G (.comp elt (.gen t it ifs r) sc pc) σ.frozen).bind fun d => match d with
    | .list es => some (upd σ x (true, .list es), .next)
    | _ => none) := rfl
theorem exS_e13 {t y e q1 pY q2 q3 q4 q5 q6 q7 q8 q9 q10 q11 σ} : exS tab G (.tryRemove t y e q1 pY q2 q3 q4 q5 q6 q7 q8 q9 q10 q11) σ = ((evIt tab G (.of (.var y pY)) σ.frozen).bind fun ds => loopM (fun d σ' => (bindS (.one e pY) d σ').bind fun σ'' => remStep t e σ'') ds σ) := rfl
theorem exs_e1 {σ} : exs tab G .nil σ = (some (σ, .next)) := rfl
theorem exs_e2 {s r σ} : exs tab G (.cons s r) σ = (match exS tab G s σ with
    | some (σ', .next) => exs tab G r σ'
    | x => x) := rfl
end
noncomputable def argGo : List Nat → List D → St → St
  | i :: ps, d :: ds, σ => argGo ps ds (upd σ i (false, d))
  | _, _, σ => σ
noncomputable def argSt (ps : List Nat) (ds : List D) : St := argGo ps ds fun _ => none
/-- a def's answer -/
noncomputable def evDef (ps : List Nat) (body : Ss) (ds : List D) : Option D :=
  if ps.length = ds.length then match exs tab G body (argSt ps ds) with
    | some (_, .ret d) => some d
    | _ => none
  else none
end

end Mine
end

section
namespace Mine
open PySem PySem.W PyProof.Rows

/-! what stays -/
/-- the frames that are open -/
noncomputable def FS (A : Around) (b : Addr) : Prop := ∃ fr env, A.frames = some fr ∧ env ∈ fr ∧ env.frame = some b

noncomputable def Same (o o' : Obj) : Prop := o'.cls = o.cls ∧ o'.dict = o.dict ∧ o'.data = o.data
theorem Same.refl (o : Obj) : Same o o := ⟨rfl, rfl, rfl⟩
theorem Same.trans {a b c : Obj} (x : Same a b) (y : Same b c) : Same a c := ⟨y.1.trans x.1, y.2.1.trans x.2.1, y.2.2.trans x.2.2⟩

/-- everything stays as it was but what W names; a frame's slots may turn -/
noncomputable def KeepX (A : Around) (W : Addr → Prop) (h h' : Heap) : Prop :=
  ∀ b o, ¬ W b → h.get? b = some o → ∃ o', h'.get? b = some o' ∧ (¬ FS A b → o' = o) ∧ Same o o'
noncomputable def NoW : Addr → Prop := fun _ => False
noncomputable abbrev Keep (A : Around) (h h' : Heap) : Prop := KeepX A NoW h h'

theorem KeepX.of_all {A : Around} {W : Addr → Prop} {h h' : Heap} (k : ∀ b o, h.get? b = some o → h'.get? b = some o) : KeepX A W h h' :=
  fun b o _ e => ⟨o, k b o e, fun _ => rfl, .refl o⟩
theorem KeepX.of_but {A : Around} {W : Addr → Prop} {h h' : Heap} (k : ∀ b o, ¬ W b → h.get? b = some o → h'.get? b = some o) : KeepX A W h h' :=
  fun b o n e => ⟨o, k b o n e, fun _ => rfl, .refl o⟩
theorem KeepX.refl {A : Around} {W : Addr → Prop} {h : Heap} : KeepX A W h h := .of_all fun _ _ e => e
theorem KeepX.trans' {A : Around} {W W' : Addr → Prop} {h₁ h₂ h₃ : Heap} (x : KeepX A W h₁ h₂) (y : KeepX A W' h₂ h₃) (hw : ∀ b o, ¬ W b → h₁.get? b = some o → ¬ W' b) : KeepX A W h₁ h₃ := fun b o n e => by
  obtain ⟨o', e', q, sm⟩ := x b o n e
  obtain ⟨o'', e'', q', sm'⟩ := y b o' (hw b o n e) e'
  exact ⟨o'', e'', fun hf => (q' hf).trans (q hf), sm.trans sm'⟩
theorem KeepX.trans {A : Around} {W : Addr → Prop} {h₁ h₂ h₃ : Heap} (x : KeepX A W h₁ h₂) (y : KeepX A W h₂ h₃) : KeepX A W h₁ h₃ := x.trans' y fun _ _ n _ => n
theorem KeepX.weaken {A : Around} {W W' : Addr → Prop} {h h' : Heap} (x : KeepX A W h h') (hw : ∀ b o, h.get? b = some o → W b → W' b) : KeepX A W' h h' :=
  fun b o n e => x b o (fun q => n (hw b o e q)) e
theorem KeepX.of_keep {A : Around} {W : Addr → Prop} {h h' : Heap} (x : Keep A h h') : KeepX A W h h' := x.weaken fun _ _ _ q => q.elim
theorem KeepX.data {A : Around} {W : Addr → Prop} {h h' : Heap} (x : KeepX A W h h') {b : Addr} {o : Obj} (n : ¬ W b) (e : h.get? b = some o) : ∃ o', h'.get? b = some o' ∧ o'.cls = o.cls ∧ o'.data = o.data :=
  let ⟨o', e', _, sm⟩ := x b o n e; ⟨o', e', sm.1, sm.2.2⟩

section
variable {A : Around} {W : Addr → Prop} {h h' : Heap}
theorem Heap.Ns.keepX {a : Addr} {m : Str → Option Value} (x : h.Ns a m) (k : KeepX A W h h') (n : ¬ W a) : h'.Ns a m := by
  obtain ⟨o, es, ep, ho, hd, r⟩ := x
  obtain ⟨o', ho', _, hd'⟩ := k.data n ho
  exact ⟨o', es, ep, ho', hd'.trans hd, r⟩
theorem Heap.IsCell.keepX {a : Addr} {v : Option Value} (x : h.IsCell a v) (k : KeepX A W h h') (n : ¬ W a) : h'.IsCell a v := by
  obtain ⟨o, ho, hd⟩ := x
  obtain ⟨o', ho', _, hd'⟩ := k.data n ho
  exact ⟨o', ho', hd'.trans hd⟩
theorem Heap.IsList.keepX {a : Addr} {v : Array Value} (x : h.IsList a v) (k : KeepX A W h h') (n : ¬ W a) : h'.IsList a v := by
  obtain ⟨o, ho, hc, m, hd⟩ := x
  obtain ⟨o', ho', hc', hd'⟩ := k.data n ho
  exact ⟨o', ho', hc'.trans hc, m, hd'.trans hd⟩
theorem Heap.NoLimit.keepX (x : h.NoLimit) (k : Keep A h h') : h'.NoLimit := let ⟨mc, a, b⟩ := x; ⟨mc, Heap.Ns.keepX a k (fun q => q), b⟩
end

/-! reading -/
/-- which token stands for which content -/
noncomputable abbrev TokMap := Tok → Option (Int ⊕ Str)
structure Wd (f : TokMap) (n : Nat) : Prop where
  pos : 0 < n
  lt : ∀ t x, f t = some x → t < n
noncomputable def Ext (f f' : TokMap) : Prop := ∀ t x, f t = some x → f' t = some x
theorem Ext.refl (f : TokMap) : Ext f f := fun _ _ e => e
theorem Ext.trans {f g k : TokMap} (x : Ext f g) (y : Ext g k) : Ext f k := fun t c e => y t c (x t c e)
theorem Wd.mono {f : TokMap} {n m : Nat} (x : Wd f n) (h : n ≤ m) : Wd f m := ⟨Nat.lt_of_lt_of_le x.pos h, fun t c e => Nat.lt_of_lt_of_le (x.lt t c e) h⟩
noncomputable def putTok (f : TokMap) (t : Tok) (c : Int ⊕ Str) : TokMap := fun u => if u = t then some c else f u
theorem putTok_ext {f : TokMap} {n t : Nat} {c : Int ⊕ Str} (x : Wd f n) (h : n ≤ t) : Ext f (putTok f t c) := fun u y e => by
  unfold putTok
  rw [if_neg (Nat.ne_of_lt (Nat.lt_of_lt_of_le (x.lt u y e) h))]; exact e
theorem putTok_wd {f : TokMap} {n t m : Nat} {c : Int ⊕ Str} (x : Wd f n) (h : n ≤ t) (hm : t < m) : Wd (putTok f t c) m :=
  ⟨Nat.lt_of_le_of_lt (Nat.zero_le _) hm, fun u y e => by
    unfold putTok at e
    by_cases q : u = t
    · rw [q]; exact hm
    · rw [if_neg q] at e; exact Nat.lt_of_lt_of_le (x.lt u y e) (Nat.le_trans h (Nat.le_of_lt hm))⟩
theorem putTok_self (f : TokMap) (t : Tok) (c : Int ⊕ Str) : putTok f t c t = some c := by simp [putTok]

mutual
/-- the value reads as the datum; none of its lists is one that Av names -/
noncomputable def Rd (f : TokMap) (Av : Addr → Prop) (h : Heap) : Value → D → Prop
  | v, .none => v = .none
  | v, .bool b => v = .bool b
  | v, .int i => ∃ t, v = .int i t ∧ t ≠ 0 ∧ f t = some (.inl i)
  | v, .raw i => ∃ t, v = .int i t
  | v, .str x => ∃ t, v = .str x t ∧ t ≠ 0 ∧ f t = some (.inr x) ∧ PyData.strOk x = true
  | v, .list ds => ∃ a its, v = .ref a ∧ ¬ Av a ∧ h.IsList a its ∧ RdAll f Av h its.toList ds
  | v, .tuple ds => ∃ a its, v = .ref a ∧ IsTup h a its ∧ RdAll f Av h its.toList ds
noncomputable def RdAll (f : TokMap) (Av : Addr → Prop) (h : Heap) : List Value → List D → Prop
  | vs, [] => vs = []
  | vs, d :: ds => ∃ v ws, vs = v :: ws ∧ Rd f Av h v d ∧ RdAll f Av h ws ds
end

/-- what W names is no tuple, and no list but those that Av names -/
noncomputable def Clear (W Av : Addr → Prop) (h : Heap) : Prop := ∀ b o xs n, W b → h.get? b = some o → o.data = .seq xs n → o.cls = .type "list" ∧ Av b
theorem clear_noW {Av : Addr → Prop} {h : Heap} : Clear NoW Av h := fun _ _ _ _ q => q.elim

theorem isTup_keepX {A : Around} {W Av : Addr → Prop} {h h' : Heap} {a : Addr} {its : Array Value} (k : KeepX A W h h') (cl : Clear W Av h) (x : IsTup h a its) : IsTup h' a its := by
  obtain ⟨o, ho, hc, m, hd⟩ := x
  obtain ⟨o', ho', hc', hd'⟩ := k.data (fun q => by have := (cl _ _ _ _ q ho hd).1; rw [hc] at this; exact absurd this (by simp)) ho
  exact ⟨o', ho', hc'.trans hc, m, hd'.trans hd⟩
theorem isList_keepC {A : Around} {W Av : Addr → Prop} {h h' : Heap} {a : Addr} {its : Array Value} (k : KeepX A W h h') (cl : Clear W Av h) (n : ¬ Av a) (x : h.IsList a its) : h'.IsList a its := by
  refine Heap.IsList.keepX x k fun q => ?_
  obtain ⟨o, ho, hc, m, hd⟩ := x
  exact n (cl _ _ _ _ q ho hd).2

mutual
theorem Rd.keepX {A : Around} {f f' : TokMap} {W Av : Addr → Prop} {h h' : Heap} (k : KeepX A W h h') (cl : Clear W Av h) (e : Ext f f') : ∀ (d : D) {v : Value}, Rd f Av h v d → Rd f' Av h' v d
  | .none, _, r => r
  | .bool _, _, r => r
  | .int _, _, ⟨t, a, b, c⟩ => ⟨t, a, b, e _ _ c⟩
  | .raw _, _, r => r
  | .str _, _, ⟨t, a, b, c, q⟩ => ⟨t, a, b, e _ _ c, q⟩
  | .list ds, _, ⟨a, its, p, n, l, r⟩ => ⟨a, its, p, n, isList_keepC k cl n l, RdAll.keepX k cl e ds r⟩
  | .tuple ds, _, ⟨a, its, p, l, r⟩ => ⟨a, its, p, isTup_keepX k cl l, RdAll.keepX k cl e ds r⟩
theorem RdAll.keepX {A : Around} {f f' : TokMap} {W Av : Addr → Prop} {h h' : Heap} (k : KeepX A W h h') (cl : Clear W Av h) (e : Ext f f') : ∀ (ds : List D) {vs : List Value}, RdAll f Av h vs ds → RdAll f' Av h' vs ds
  | [], _, r => r
  | d :: ds, _, ⟨v, ws, p, r, q⟩ => ⟨v, ws, p, Rd.keepX k cl e d r, RdAll.keepX k cl e ds q⟩
end
mutual
theorem Rd.weaken {f : TokMap} {Av Av' : Addr → Prop} {h : Heap} (q : ∀ a, Av' a → Av a) : ∀ (d : D) {v : Value}, Rd f Av h v d → Rd f Av' h v d
  | .none, _, r => r
  | .bool _, _, r => r
  | .int _, _, r => r
  | .raw _, _, r => r
  | .str _, _, r => r
  | .list ds, _, ⟨a, its, p, n, l, r⟩ => ⟨a, its, p, fun y => n (q a y), l, RdAll.weaken q ds r⟩
  | .tuple ds, _, ⟨a, its, p, l, r⟩ => ⟨a, its, p, l, RdAll.weaken q ds r⟩
theorem RdAll.weaken {f : TokMap} {Av Av' : Addr → Prop} {h : Heap} (q : ∀ a, Av' a → Av a) : ∀ (ds : List D) {vs : List Value}, RdAll f Av h vs ds → RdAll f Av' h vs ds
  | [], _, r => r
  | d :: ds, _, ⟨v, ws, p, r, z⟩ => ⟨v, ws, p, Rd.weaken q d r, RdAll.weaken q ds z⟩
end
mutual
theorem Rd.reads {f : TokMap} {Av : Addr → Prop} {h : Heap} : ∀ (d : D) {v : Value}, Rd f Av h v d → (toP d).canLay0 = true ∧ ∃ as, Reads h v (toP d) as
  | .none, _, r => by cases r; exact ⟨rfl, _, .none⟩
  | .bool _, _, r => by cases r; exact ⟨rfl, _, .bool _⟩
  | .int _, _, ⟨t, a, _, _⟩ => by cases a; exact ⟨rfl, _, .int _ _⟩
  | .raw _, _, ⟨t, a⟩ => by cases a; exact ⟨rfl, _, .int _ _⟩
  | .str _, _, ⟨t, a, _, _, q⟩ => by cases a; exact ⟨by simpa [toP, PyData.canLay0] using q, _, .str _ _⟩
  | .list ds, _, ⟨a, its, p, n, ⟨o, h1, h2, _, h3⟩, r⟩ => by
    obtain ⟨c, as, q⟩ := RdAll.reads ds r
    cases p
    exact ⟨by simpa [toP, PyData.canLay0] using c, _, .list h1 h2 h3 q⟩
  | .tuple ds, _, ⟨a, its, p, ⟨o, h1, h2, _, h3⟩, r⟩ => by
    obtain ⟨c, as, q⟩ := RdAll.reads ds r
    cases p
    exact ⟨by simpa [toP, PyData.canLay0] using c, _, .tuple h1 h2 h3 q⟩
theorem RdAll.reads {f : TokMap} {Av : Addr → Prop} {h : Heap} : ∀ (ds : List D) {vs : List Value}, RdAll f Av h vs ds → PyData.canLayAll0 (toPs ds) = true ∧ ∃ as, ReadsAll h vs (toPs ds) as
  | [], _, r => by cases r; exact ⟨by simp [toPs, PyData.canLayAll0], _, .nil⟩
  | d :: ds, _, ⟨v, ws, p, r, q⟩ => by
    obtain ⟨c, as, x⟩ := Rd.reads d r
    obtain ⟨c', bs, y⟩ := RdAll.reads ds q
    cases p
    exact ⟨by simp [toPs, PyData.canLayAll0, c, c'], _, .cons x y⟩
end

section
variable {A : Around} {f f' : TokMap} {W Av Av' : Addr → Prop} {h h' : Heap} {v : Value} {d : D} {vs ws : List Value} {ds es : List D}
theorem Rd.keep (r : Rd f Av h v d) (k : Keep A h h') (e : Ext f f') : Rd f' Av h' v d := Rd.keepX k clear_noW e d r
theorem RdAll.keep (r : RdAll f Av h vs ds) (k : Keep A h h') (e : Ext f f') : RdAll f' Av h' vs ds := RdAll.keepX k clear_noW e ds r
theorem Rd.num (r : Rd f Av h v d) {i : Int} (e : d.num = some i) : ∃ t, v = .int i t := by
  cases d <;> simp [D.num] at e
  · obtain ⟨t, a, _, _⟩ := r; subst e; exact ⟨t, a⟩
  · obtain ⟨t, a⟩ := r; subst e; exact ⟨t, a⟩
theorem RdAll.nil : RdAll f Av h [] [] := rfl
theorem RdAll.cons (r : Rd f Av h v d) (q : RdAll f Av h vs ds) : RdAll f Av h (v :: vs) (d :: ds) := ⟨v, vs, rfl, r, q⟩
theorem RdAll.length : ∀ {ds : List D} {vs : List Value}, RdAll f Av h vs ds → vs.length = ds.length
  | [], _, r => by cases r; rfl
  | d :: ds, _, ⟨v, ws, p, _, q⟩ => by subst p; simp [RdAll.length q]
theorem RdAll.append (r : RdAll f Av h ws es) : ∀ {ds : List D} {vs : List Value}, RdAll f Av h vs ds → RdAll f Av h (vs ++ ws) (ds ++ es)
  | [], _, q => by cases q; exact r
  | d :: ds, _, ⟨v, ws', p, q1, q2⟩ => by subst p; exact .cons q1 (RdAll.append r q2)
theorem RdAll.one (r : Rd f Av h v d) : RdAll f Av h [v] [d] := .cons r .nil
theorem RdAll.get : ∀ {ds : List D} {vs : List Value}, RdAll f Av h vs ds → ∀ {i : Nat} {d : D}, ds[i]? = some d → ∃ v, vs[i]? = some v ∧ Rd f Av h v d
  | d :: ds, _, ⟨v, ws, p, q1, q2⟩, i, e, he => by
    subst p
    cases i with
    | zero => cases he; exact ⟨v, rfl, q1⟩
    | succ i => exact RdAll.get q2 (by simpa using he)
  | [], _, _, i, e, he => by simp at he
theorem RdAll.set : ∀ {ds : List D} {vs : List Value}, RdAll f Av h vs ds → Rd f Av h v d → ∀ i, RdAll f Av h (vs.set i v) (ds.set i d)
  | d' :: ds, _, ⟨v', ws, p, q1, q2⟩, r, i => by
    subst p
    cases i with
    | zero => exact .cons r q2
    | succ i => exact .cons q1 (RdAll.set q2 r i)
  | [], _, q, _, _ => by cases q; rfl
theorem Rd.scalar (r : Rd f Av h v d) (e : scalar d = true) : Rd f Av' h v d := by
  cases d <;> first | exact r | (simp [scalar] at e)
end

/-! the ground: what the top has left -/
structure BaseOk (h₁ : Heap) (mg mb : Str → Option Value) : Prop where
  g : h₁.Ns mainGlobals mg
  b : h₁.Ns builtinsNs mb
  lim : h₁.NoLimit
  nb : NoneBooked h₁
  bi : ∀ x : Str, x ≠ "__name__" → mb x = bootBuiltins x
  miss : ∀ x ∈ (["sum", "len", "min", "max", "range", "enumerate", "list", "ValueError"] : List Str), mg x = none

structure SI (h₁ : Heap) (A : Around) (h : Heap) : Prop where
  base : ∀ b o, h₁.get? b = some o → h.get? b = some o
  fr : ∃ fr, A.frames = some fr ∧ h.FunFrames h₁ fr

theorem funFrames_mem {h base : Heap} : ∀ {l : List Env}, h.FunFrames base l → ∀ env ∈ l, ∀ b, env.frame = some b → base.get? b = none ∧ ∃ o, h.get? b = some o ∧ ∀ vs, o.data ≠ .fields vs
  | [], _, env, hm, b, e => by cases hm
  | x :: l, h, env, hm, b, e => by
    obtain ⟨_, ⟨L, o, hf, hn, ho, hd⟩, hr⟩ := h
    rcases List.mem_cons.mp hm with q | q
    · subst q
      rw [hf] at e; cases e; exact ⟨hn, o, ho, hd⟩
    · exact funFrames_mem hr env q b e
theorem SI.notFS {h₁ : Heap} {A : Around} {h : Heap} (x : SI h₁ A h) {b : Addr} {o : Obj} (e : h₁.get? b = some o) : ¬ FS A b := by
  rintro ⟨fr, env, hf, hm, hb⟩
  obtain ⟨fr', hf', hF⟩ := x.fr
  rw [hf] at hf'; cases hf'
  rw [(funFrames_mem hF env hm b hb).1] at e; cases e

/-- what W names is new since the ground, and stays what it is in kind -/
theorem SI.keepX {h₁ : Heap} {A : Around} {W : Addr → Prop} {h h' : Heap} (x : SI h₁ A h) (k : KeepX A W h h') (hn : ∀ b o, W b → h₁.get? b = some o → False)
    (hw : ∀ b, W b → ∃ o', h'.get? b = some o' ∧ ∀ vs, o'.data ≠ .fields vs) : SI h₁ A h' := by
  obtain ⟨fr, hf, hF⟩ := x.fr
  refine ⟨fun b o e => ?_, fr, hf, ?_⟩
  · obtain ⟨o', e', q, _⟩ := k b o (fun q => hn b o q e) (x.base b o e)
    rw [q (x.notFS e)] at e'; exact e'
  · clear hf
    induction fr with
    | nil => trivial
    | cons env r ih =>
      obtain ⟨hk, ⟨L, o, hf, hn', ho, hd⟩, hr⟩ := hF
      refine ⟨hk, ?_, ih hr⟩
      by_cases q : W L
      · obtain ⟨o', e', d'⟩ := hw L q
        exact ⟨L, o', hf, hn', e', d'⟩
      · obtain ⟨o', e', _, d'⟩ := k.data q ho
        exact ⟨L, o', hf, hn', e', fun vs => by rw [d']; exact hd vs⟩
theorem SI.keep {h₁ : Heap} {A : Around} {h h' : Heap} (x : SI h₁ A h) (k : Keep A h h') : SI h₁ A h' := x.keepX k (fun _ _ q _ => q) fun _ q => q.elim

/-! names -/
noncomputable def VarAt (env : Env) (h : Heap) (x : Str) (v : Value) : Prop :=
  (env.kindOf x = some .local ∧ ∃ m, h.Ns env.locals m ∧ m x = some v) ∨
  ((env.kindOf x = some .cell ∨ env.kindOf x = some .free) ∧ ∃ c, env.cells.lookup x = some c ∧ h.IsCell c (some v))

structure EnvOk (env : Env) (kinds : List (Str × NameKind)) (h : Heap) : Prop where
  kind : env.scope.kind = .function
  names : env.scope.names = kinds
  globals : env.globals = mainGlobals
  builtins : env.builtins = builtinsNs
  ns : ∃ m, h.Ns env.locals m
  cells : ∀ n, env.kindOf n = some .cell ∨ env.kindOf n = some .free → ∃ c v, env.cells.lookup n = some c ∧ h.IsCell c v
  apart : env.cells.Pairwise fun x y => x.2 ≠ y.2

theorem VarAt.keep {A : Around} {env : Env} {h h' : Heap} {x : Str} {v : Value} (q : VarAt env h x v) (k : Keep A h h') : VarAt env h' x v :=
  q.imp (fun ⟨a, m, b, c⟩ => ⟨a, m, Heap.Ns.keepX b k (fun q => q), c⟩) fun ⟨a, c, b, d⟩ => ⟨a, c, b, Heap.IsCell.keepX d k (fun q => q)⟩
theorem EnvOk.keep {A : Around} {env : Env} {kinds : List (Str × NameKind)} {h h' : Heap} (q : EnvOk env kinds h) (k : Keep A h h') : EnvOk env kinds h' :=
  ⟨q.kind, q.names, q.globals, q.builtins, let ⟨m, a⟩ := q.ns; ⟨m, Heap.Ns.keepX a k (fun q => q)⟩, fun n e => let ⟨c, v, a, b⟩ := q.cells n e; ⟨c, v, a, Heap.IsCell.keepX b k (fun q => q)⟩, q.apart⟩

/-- the room of an activation -/
structure AOk (lvl : Nat) (A : Around) : Prop where
  handled : A.handled = none
  depth : A.depth + lvl ≤ 900
  units : A.units + 10 * lvl + 300 ≤ 9900

/-- all that an expression asks of the state -/
structure Cx (tab : Nat → Str) (h₁ : Heap) (A : Around) (env : Env) (kinds : List (Str × NameKind)) (ρ : Vw) (f : TokMap) (Av : Addr → Prop) (s : Shared) : Prop where
  si : SI h₁ A s.heap
  ok : EnvOk env kinds s.heap
  lo : h₁.get? env.locals = none
  ce : ∀ n c, env.cells.lookup n = some c → h₁.get? c = none
  av : ∀ a, Av a → ∃ o, s.heap.get? a = some o
  wd : Wd f s.toks
  rel : ∀ i d, ρ i = some d → ∃ v, VarAt env s.heap (tab i) v ∧ Rd f Av s.heap v d

/-- the heap and the tokens alone have turned, and all stands -/
noncomputable def KeepS (A : Around) (s s' : Shared) : Prop := ∃ h' tk, s' = { s with heap := h', toks := tk } ∧ Keep A s.heap h'
theorem KeepS.refl {A : Around} {s : Shared} : KeepS A s s := ⟨s.heap, s.toks, rfl, .refl⟩
theorem KeepS.trans {A : Around} {s₁ s₂ s₃ : Shared} (x : KeepS A s₁ s₂) (y : KeepS A s₂ s₃) : KeepS A s₁ s₃ := by
  obtain ⟨h, t, rfl, k⟩ := x
  obtain ⟨h', t', rfl, k'⟩ := y
  exact ⟨h', t', rfl, k.trans k'⟩
theorem KeepS.of {A : Around} {s : Shared} {h' : Heap} {tk : Nat} (k : ∀ b o, s.heap.get? b = some o → h'.get? b = some o) : KeepS A s { s with heap := h', toks := tk } := ⟨h', tk, rfl, .of_all k⟩
theorem KeepS.tok {A : Around} {s : Shared} {tk : Nat} : KeepS A s { s with toks := tk } := ⟨s.heap, tk, rfl, .refl⟩
theorem KeepS.keep {A : Around} {s s' : Shared} (x : KeepS A s s') : Keep A s.heap s'.heap := by obtain ⟨h, t, rfl, k⟩ := x; exact k

theorem Cx.keep {tab : Nat → Str} {h₁ : Heap} {A : Around} {env : Env} {kinds : List (Str × NameKind)} {ρ : Vw} {f f' : TokMap} {Av : Addr → Prop} {s s' : Shared} (x : Cx tab h₁ A env kinds ρ f Av s) (k : KeepS A s s') (e : Ext f f') (w : Wd f' s'.toks) : Cx tab h₁ A env kinds ρ f' Av s' :=
  ⟨x.si.keep k.keep, x.ok.keep k.keep, x.lo, x.ce, fun a q => let ⟨o, e⟩ := x.av a q; let ⟨o', e', _⟩ := k.keep a o (fun q => q) e; ⟨o', e'⟩, w, fun i d q => let ⟨v, a, b⟩ := x.rel i d q; ⟨v, a.keep k.keep, b.keep k.keep e⟩⟩

/-- the tree gives a value of the datum -/
noncomputable def Got (A : Around) (f : TokMap) (Av : Addr → Prop) (s : Shared) (d : D) (v : Value) (s' : Shared) : Prop := KeepS A s s' ∧ ∃ f', Ext f f' ∧ Wd f' s'.toks ∧ Rd f' Av s'.heap v d

section
variable {A : Around} {f : TokMap} {Av : Addr → Prop} {s s' : Shared} {d : D} {v : Value}
/-- a value that needs no token of its own -/
theorem Got.same (k : KeepS A s s') (w : Wd f s.toks) (t : s.toks ≤ s'.toks) (r : Rd f Av s'.heap v d) : Got A f Av s d v s' := ⟨k, f, .refl f, w.mono t, r⟩
theorem Got.bool {b : Bool} (k : KeepS A s s') (w : Wd f s.toks) (t : s.toks ≤ s'.toks) : Got A f Av s (.bool b) (.bool b) s' := .same k w t rfl
theorem Got.raw {i : Int} {u : Tok} (k : KeepS A s s') (w : Wd f s.toks) (t : s.toks ≤ s'.toks) : Got A f Av s (.raw i) (.int i u) s' := .same k w t ⟨u, rfl⟩
theorem Got.int {i : Int} {u : Tok} (k : KeepS A s s') (w : Wd f s.toks) (t : s.toks ≤ u) (t' : u < s'.toks) : Got A f Av s (.int i) (.int i u) s' :=
  ⟨k, putTok f u (.inl i), putTok_ext w t, putTok_wd w t t', u, rfl, Nat.ne_of_gt (Nat.lt_of_lt_of_le w.pos t), putTok_self ..⟩
theorem Got.str {x : Str} {u : Tok} (k : KeepS A s s') (w : Wd f s.toks) (t : s.toks ≤ u) (t' : u < s'.toks) (ok : PyData.strOk x = true) : Got A f Av s (.str x) (.str x u) s' :=
  ⟨k, putTok f u (.inr x), putTok_ext w t, putTok_wd w t t', u, rfl, Nat.ne_of_gt (Nat.lt_of_lt_of_le w.pos t), putTok_self .., ok⟩
theorem Got.trans {s₀ : Shared} {f₀ : TokMap} (k : KeepS A s₀ s) (e : Ext f₀ f) (g : Got A f Av s d v s') : Got A f₀ Av s₀ d v s' := let ⟨k', f', e', w, r⟩ := g; ⟨k.trans k', f', e.trans e', w, r⟩
end
end Mine
end

section
namespace Mine
open PySem PySem.W PyProof.Rows

theorem lim_le : lim ≤ sizeLine := by decide

theorem bitOr_pp {x y : Int} (hx : 0 ≤ x) (hy : 0 ≤ y) : Builtin.bitOr x y = ((x.toNat ||| y.toNat : Nat) : Int) := by
  have nx : ¬ 0 ≤ Builtin.bitNot x := by unfold Builtin.bitNot; omega
  have ny : ¬ 0 ≤ Builtin.bitNot y := by unfold Builtin.bitNot; omega
  have e : ∀ z : Int, Builtin.bitNot (Builtin.bitNot z) = z := fun z => by unfold Builtin.bitNot; omega
  show Builtin.bitNot (Builtin.bitAnd (Builtin.bitNot x) (Builtin.bitNot y)) = _
  rw [bitAnd_nn nx ny, e, e, e]

section
variable {prog : Program} {w : World} {A : Around} {E : Value → Shared → Prop} {f : TokMap} {Av : Addr → Prop} {s : Shared} {a b : Value} {da db d : D}

theorem new_not (av : ∀ a, Av a → ∃ o, s.heap.get? a = some o) : ¬ Av s.heap.objs.size := fun q => by
  obtain ⟨o, e⟩ := av _ q
  exact absurd (Heap.lt_size e) (Nat.lt_irrefl _)
theorem keep_push (o : Obj) : KeepS A s { s with heap := s.heap.push o } := ⟨_, s.toks, rfl, .of_all fun _ _ e => Heap.get?_push_of_some _ e⟩
theorem keep_pushT (o : Obj) (tk : Nat) : KeepS A s { s with heap := s.heap.push o, toks := tk } := ⟨_, tk, rfl, .of_all fun _ _ e => Heap.get?_push_of_some _ e⟩
theorem isList_push (h : Heap) (vs : Array Value) : (h.push { cls := .type "list", data := .seq vs }).IsList h.objs.size vs := ⟨_, Heap.get?_push_size _ rfl, rfl, 0, rfl⟩
theorem isTup_push (h : Heap) (vs : Array Value) : IsTup (h.push { cls := .type "tuple", data := .seq vs }) h.objs.size vs := ⟨_, Heap.get?_push_size _ rfl, rfl, 0, rfl⟩

/-- a new list -/
theorem got_newList {vs : List Value} {ds : List D} (hw : Wd f s.toks) (av : ∀ a, Av a → ∃ o, s.heap.get? a = some o) (r : RdAll f Av s.heap vs ds) :
    Got A f Av s (.list ds) (.ref s.heap.objs.size) { s with heap := s.heap.push { cls := .type "list", data := .seq vs.toArray } } :=
  .same (keep_push _) hw (Nat.le_refl _) ⟨_, vs.toArray, rfl, new_not av, isList_push _ _, r.keep (keep_push (A := A) _).keep (.refl f)⟩

theorem int_sound {t u : Tok} {x y z : Int} {o : BO} (h : binI o x y = some z) (hw : Wd f s.toks) : wpAny (model prog w) A (binaryOp o.op (.int x t) (.int y u)) (Got A f Av s (.int z)) E s := by
  have fin : ∀ z', z' = z → Got A f Av s (.int z) (.int z' s.toks) { s with toks := s.toks + 1 } := fun z' e => by subst e; exact .int .tok hw (Nat.le_refl _) (Nat.lt_succ_self _)
  cases o <;> simp only [binI] at h
  · exact add_int (fin _ (by simpa using h))
  · exact sub_int (fin _ (by simpa using h))
  · split at h
    · rename_i hb
      refine mod_int' (by omega) (fin _ ?_)
      rw [Int.fmod_eq_emod_of_nonneg _ (by omega)]; simpa using h
    · cases h
  · split at h
    · rename_i hb
      refine floordiv_int (by omega) (fin _ ?_) (.inl (PyProof.noPylong_small (by omega)))
      rw [Int.fdiv_eq_ediv_of_nonneg _ (by omega)]; simpa using h
    · cases h
  · split at h
    · rename_i hb
      refine lshift_int_small (by omega) (by omega) (by omega) (fin _ (by simpa using h))
    · cases h
  · split at h
    · rename_i hb
      refine rshift_int hb (fin _ ?_)
      rw [Int.fdiv_eq_ediv_of_nonneg _ (Int.le_of_lt (Int.pow_pos (by decide)))]; simpa using h
    · cases h
  · split at h
    · rename_i hb
      refine and_int (fin _ ?_)
      rw [bitAnd_pp hb.1 hb.2]; simpa using h
    · cases h
  · split at h
    · rename_i hb
      refine or_int (fin _ ?_)
      rw [bitOr_pp hb.1 hb.2]; simpa using h
    · cases h
  · split at h
    · rename_i hb
      refine pow_int_small (by omega) (by omega) (by omega) (fin _ (by simpa using h))
    · cases h

theorem numsD_inv {g : Int → Int → Option D} (h : numsD g da db = some d) : ∃ x y, da.num = some x ∧ db.num = some y ∧ g x y = some d := by
  unfold numsD at h
  split at h
  · split at h
    · exact ⟨_, _, by assumption, by assumption, h⟩
    · cases h
  · cases h

theorem strOk_append {x y : Str} (hx : PyData.strOk x = true) (hy : PyData.strOk y = true) : PyData.strOk (x ++ y) = true := by
  unfold PyData.strOk at *
  show (Array.all (x.cps ++ y.cps) _) = true
  rw [Array.all_append, hx, hy]; rfl

theorem add_list_sound {l k : Addr} {xs ys : Array Value} {ds es : List D} (hw : Wd f s.toks) (av : ∀ a, Av a → ∃ o, s.heap.get? a = some o)
    (hl : s.heap.IsList l xs) (hk : s.heap.IsList k ys) (r : RdAll f Av s.heap xs.toList ds) (q : RdAll f Av s.heap ys.toList es) (hsz : (ds ++ es).length ≤ lim) :
    wpAny (model prog w) A (binaryOp .Add (.ref l) (.ref k)) (Got A f Av s (.list (ds ++ es))) E s := by
  obtain ⟨⟨cls, dd, data, sl⟩, ho, hc, n, hd⟩ := id hl
  obtain ⟨⟨cls2, dd2, data2, sl2⟩, ho2, hc2, n2, hd2⟩ := id hk
  simp only at hc hd hc2 hd2
  subst hc hd hc2 hd2
  have l1 := r.length
  have l2 := q.length
  rw [Array.length_toList] at l1 l2
  rw [List.length_append] at hsz
  have e : xs ++ ys = (xs.toList ++ ys.toList).toArray := by simp
  refine concat_meets ⟨_, ho, rfl⟩ ⟨_, ho2, rfl⟩ noFill_list_add seq_list_add PySem.F.slot_list_add PySem.F.entry_list_add (PySem.F.args_list_add_2 _ _) (list_addW l k xs ys n n2 dd dd2 sl sl2 (by have := lim_le; omega)) ⟨ho, ho2, ?_⟩
  rw [e]
  exact got_newList hw av (RdAll.append q r)

theorem add_str_sound {x y : Str} (hw : Wd f s.toks) (ra : Rd f Av s.heap a (.str x)) (rb : Rd f Av s.heap b (.str y)) (hsz : x.length + y.length ≤ lim) :
    wpAny (model prog w) A (binaryOp .Add a b) (Got A f Av s (.str (x ++ y))) E s := by
  obtain ⟨t, rfl, t0, tf, okx⟩ := ra
  obtain ⟨u, rfl, u0, uf, oky⟩ := rb
  refine P.add_str ?_
  split
  · rename_i h
    have : x = ⟨#[]⟩ := by
      have h' : x.cps.size = 0 := by simpa [Str.length] using h
      obtain ⟨cps⟩ := x
      simpa using h'
    subst this
    have e : ((⟨#[]⟩ : Str) ++ y) = y := by show (⟨#[] ++ y.cps⟩ : Str) = y; simp
    rw [e]; exact .same .refl hw (Nat.le_refl _) ⟨u, rfl, u0, uf, oky⟩
  · split
    · rename_i h
      have : y = ⟨#[]⟩ := by
        have h' : y.cps.size = 0 := by simpa [Str.length] using h
        obtain ⟨cps⟩ := y
        simpa using h'
      subst this
      have e : (x ++ (⟨#[]⟩ : Str)) = x := by show (⟨x.cps ++ #[]⟩ : Str) = x; simp
      rw [e]; exact .same .refl hw (Nat.le_refl _) ⟨t, rfl, t0, tf, okx⟩
    · refine ⟨?_, .str .tok hw (Nat.le_refl _) (Nat.lt_succ_self _) (strOk_append okx oky)⟩
      have : (x ++ y).length = x.length + y.length := by show (x.cps ++ y.cps).size = _; rw [Array.size_append]; rfl
      rw [this]; exact Nat.le_trans hsz lim_le

theorem mkList_inv {ds : List D} (h : mkList ds = some d) : ds.length ≤ lim ∧ d = .list ds := by
  unfold mkList at h
  split at h
  · cases h; exact ⟨by assumption, rfl⟩
  · cases h

theorem bin_sound {o : BO} (h : binD o da db = some d) (hw : Wd f s.toks) (av : ∀ a, Av a → ∃ o, s.heap.get? a = some o) (ra : Rd f Av s.heap a da) (rb : Rd f Av s.heap b db) :
    wpAny (model prog w) A (binaryOp o.op a b) (Got A f Av s d) E s := by
  have nums : ∀ {o : BO}, numsD (fun x y => (binI o x y).map .int) da db = some d → wpAny (model prog w) A (binaryOp o.op a b) (Got A f Av s d) E s := by
    intro o h
    obtain ⟨x, y, hx, hy, hz⟩ := numsD_inv h
    obtain ⟨t, rfl⟩ := ra.num hx
    obtain ⟨u, rfl⟩ := rb.num hy
    obtain ⟨z, hz', rfl⟩ := Option.map_eq_some_iff.mp hz
    exact int_sound hz' hw
  cases o
  case add =>
    unfold binD addD at h
    dsimp only at h
    split at h
    · obtain ⟨hl, rfl⟩ := mkList_inv h
      obtain ⟨l, xs, rfl, _, hl1, r1⟩ := ra
      obtain ⟨k, ys, rfl, _, hl2, r2⟩ := rb
      exact add_list_sound hw av hl1 hl2 r1 r2 hl
    · split at h
      · cases h
        exact add_str_sound hw ra rb (by assumption)
      · cases h
    · refine nums (o := .add) ?_
      rw [← h]; rfl
  all_goals exact nums h

/-! comparisons -/
theorem shaped_of {d : D} (h : okD d = true) (c : (toP d).canLay0 = true) : SeqAt.shaped (toP d) = true := by
  unfold SeqAt.shaped
  unfold okD at h
  rw [c, Bool.true_and]
  have := of_decide_eq_true h
  exact decide_eq_true (by omega)
theorem eq_sound {c : Bool} (h : eqD da db = some c) (hu : A.units + 100 < cLine) (hw : Wd f s.toks) (ra : Rd f Av s.heap a da) (rb : Rd f Av s.heap b db) :
    wpAny (model prog w) A (compareOp .Eq a b) (Got A f Av s (.bool c)) E s := by
  unfold eqD at h
  split at h
  · rename_i ok
    rw [Bool.and_eq_true] at ok
    cases h
    obtain ⟨ca, as, qa⟩ := Rd.reads da ra
    obtain ⟨cb, bs, qb⟩ := Rd.reads db rb
    exact eq_dataH qa qb (shaped_of ok.1 ca) (shaped_of ok.2 cb) (by omega) (.bool .refl hw (Nat.le_refl _))
  · cases h
theorem ne_sound {c : Bool} (h : eqD da db = some c) (hu : A.units + 100 < cLine) (hw : Wd f s.toks) (ra : Rd f Av s.heap a da) (rb : Rd f Av s.heap b db) :
    wpAny (model prog w) A (compareOp .NotEq a b) (Got A f Av s (.bool (!c))) E s := by
  unfold eqD at h
  split at h
  · rename_i ok
    rw [Bool.and_eq_true] at ok
    cases h
    obtain ⟨ca, as, qa⟩ := Rd.reads da ra
    obtain ⟨cb, bs, qb⟩ := Rd.reads db rb
    exact ne_dataH qa qb (shaped_of ok.1 ca) (shaped_of ok.2 cb) (by omega) (.bool .refl hw (Nat.le_refl _))
  · cases h
theorem depthAll_le {ds : List D} (h : okD (.list ds) = true) : PyData.depthAll (toPs ds) ≤ 50 := by
  unfold okD at h
  have := of_decide_eq_true h
  simp only [toP, PyData.depth] at this
  omega
theorem toPs_any (g : PyData → Bool) : ∀ ds : List D, (toPs ds).any g = ds.any fun d => g (toP d)
  | [] => rfl
  | d :: ds => by simp only [toPs, List.any_cons, toPs_any g ds]
theorem in_sound {xs : List D} {c : Bool} (h : inD da xs = some c) (hu : A.units + 100 < cLine) (hw : Wd f s.toks) (ra : Rd f Av s.heap a da) (rb : Rd f Av s.heap b (.list xs)) :
    wpAny (model prog w) A (compareOp .In a b) (Got A f Av s (.bool c)) E s := by
  unfold inD at h
  split at h
  · rename_i ok
    rw [Bool.and_eq_true] at ok
    cases h
    obtain ⟨ca, as, qa⟩ := Rd.reads da ra
    obtain ⟨cb, bs, qb⟩ := Rd.reads (.list xs) rb
    refine SeqAt.in_list_reads (xs := toPs xs) (d := toP da) qb qa (by simpa [toP, PyData.canLay0] using cb) ca ?_ ?_
    · have := depthAll_le ok.2
      omega
    · rw [toPs_any]; exact .bool .refl hw (Nat.le_refl _)
  · cases h
theorem notin_sound {xs : List D} {c : Bool} (h : inD da xs = some c) (hu : A.units + 100 < cLine) (hw : Wd f s.toks) (ra : Rd f Av s.heap a da) (rb : Rd f Av s.heap b (.list xs)) :
    wpAny (model prog w) A (compareOp .NotIn a b) (Got A f Av s (.bool (!c))) E s := by
  unfold inD at h
  split at h
  · rename_i ok
    rw [Bool.and_eq_true] at ok
    cases h
    obtain ⟨ca, as, qa⟩ := Rd.reads da ra
    obtain ⟨cb, bs, qb⟩ := Rd.reads (.list xs) rb
    refine SeqAt.notIn_list_reads (xs := toPs xs) (d := toP da) qb qa (by simpa [toP, PyData.canLay0] using cb) ca ?_ ?_
    · have := depthAll_le ok.2
      omega
    · rw [toPs_any]; exact .bool .refl hw (Nat.le_refl _)
  · cases h

theorem hasSub_iff (p : List Nat) : ∀ l : List Nat, hasSub p l = true ↔ ∃ i, i + p.length ≤ l.length ∧ (l.drop i).take p.length = p
  | [] => by
    simp only [hasSub, List.isEmpty_iff, List.length_nil, List.drop_nil, List.take_nil]
    constructor
    · rintro rfl; exact ⟨0, by simp⟩
    · rintro ⟨i, h1, h2⟩; exact h2.symm
  | c :: l => by
    have ih := hasSub_iff p l
    simp only [hasSub, Bool.or_eq_true, ih, List.isPrefixOf_iff_prefix]
    constructor
    · rintro (h | ⟨i, h1, h2⟩)
      · refine ⟨0, ?_, ?_⟩
        · have := h.length_le; simpa using this
        · rw [List.drop_zero]; exact (List.prefix_iff_eq_take.mp h).symm
      · exact ⟨i + 1, by simp only [List.length_cons]; omega, by simpa using h2⟩
    · rintro ⟨i, h1, h2⟩
      cases i with
      | zero => left; rw [List.drop_zero] at h2; exact List.prefix_iff_eq_take.mpr h2.symm
      | succ i => right; exact ⟨i, by simp only [List.length_cons] at h1; omega, by simpa using h2⟩
theorem strIn_eq (x y : Str) : (!(Builtin.Str.occurrences y x 0 y.length 1).isEmpty) = strIn x y := by
  rw [Bool.eq_iff_iff, StrLaws.found_iff]
  unfold strIn
  rw [hasSub_iff]
  have e : ∀ i, Builtin.Str.subAt y x i = true ↔ (y.cps.toList.drop i).take x.cps.toList.length = x.cps.toList := fun i => by
    rw [StrLaws.subAt_eq, beq_iff_eq]
    rfl
  constructor
  · rintro ⟨i, h1, h2⟩; exact ⟨i, by simpa [Str.length] using h1, (e i).mp h2⟩
  · rintro ⟨i, h1, h2⟩; exact ⟨i, by simpa [Str.length] using h1, (e i).mpr h2⟩

theorem cmp_sound {o : CO} (h : cmpD o da db = some d) (hu : A.units + 100 < cLine) (hw : Wd f s.toks) (ra : Rd f Av s.heap a da) (rb : Rd f Av s.heap b db) :
    wpAny (model prog w) A (compareOp o.op a b) (Got A f Av s d) E s := by
  cases o <;> simp only [cmpD] at h
  · obtain ⟨c, hc, rfl⟩ := Option.map_eq_some_iff.mp h
    exact eq_sound hc hu hw ra rb
  · obtain ⟨c, hc, rfl⟩ := Option.map_eq_some_iff.mp h
    exact ne_sound hc hu hw ra rb
  · obtain ⟨x, y, hx, hy, hz⟩ := numsD_inv h
    obtain ⟨t, rfl⟩ := ra.num hx
    obtain ⟨u, rfl⟩ := rb.num hy
    cases hz
    exact lt_int (.bool .refl hw (Nat.le_refl _))
  · obtain ⟨x, y, hx, hy, hz⟩ := numsD_inv h
    obtain ⟨t, rfl⟩ := ra.num hx
    obtain ⟨u, rfl⟩ := rb.num hy
    cases hz
    exact gt_int (.bool .refl hw (Nat.le_refl _))
  · split at h
    · obtain ⟨c, hc, rfl⟩ := Option.map_eq_some_iff.mp h
      exact in_sound hc hu hw ra rb
    · split at h
      · cases h
        obtain ⟨t, rfl, _⟩ := ra
        obtain ⟨u, rfl, _⟩ := rb
        refine P.in_str ?_
        rw [strIn_eq]
        exact .bool .refl hw (Nat.le_refl _)
      · cases h
    · cases h
  · split at h
    · obtain ⟨c, hc, rfl⟩ := Option.map_eq_some_iff.mp h
      exact notin_sound hc hu hw ra rb
    · cases h
  · split at h
    · cases h
      cases ra
      cases rb
      have e : ∀ x y : Bool, (Value.bool x == Value.bool y) = (x == y) := by intro x y; cases x <;> cases y <;> rfl
      exact wpAny_is_plain rfl (by rw [e]; exact .bool .refl hw (Nat.le_refl _))
    · cases h
  · split at h
    · cases h
      cases ra
      cases rb
      have e : ∀ x y : Bool, (Value.bool x == Value.bool y) = (x == y) := by intro x y; cases x <;> cases y <;> rfl
      exact wpAny_isNot_plain rfl (by rw [e]; exact .bool .refl hw (Nat.le_refl _))
    · cases h
end
end Mine
end

section
namespace Mine
open PySem PySem.W PyProof.Rows

/-! slices -/
noncomputable def pickL {α : Type} (l : List α) (lo hi st : Option Int) : List α :=
  (sliceRange (sliceBounds lo hi st l.length).1 (sliceBounds lo hi st l.length).2.1 (sliceBounds lo hi st l.length).2.2).filterMap (l[·]?)

theorem fmGet {α β : Type} (f : α → Option β) : ∀ (l : List α), (∀ x ∈ l, (f x).isSome) → ∀ k : Nat, (l.filterMap f)[k]? = l[k]?.bind f
  | [], _, k => by simp
  | x :: l, h, k => by
    obtain ⟨y, hy⟩ := Option.isSome_iff_exists.mp (h x (List.mem_cons_self ..))
    rw [List.filterMap_cons, hy]
    cases k with
    | zero => simp [hy]
    | succ k => simp only [List.getElem?_cons_succ]; exact fmGet f l (fun z hz => h z (List.mem_cons_of_mem _ hz)) k

theorem stride_get {α : Type} (c : Nat) : ∀ (l : List α) (j k : Nat), (strideL c j l)[k]? = l[j + (c + 1) * k]?
  | [], j, k => by cases j <;> simp [strideL]
  | x :: l, 0, 0 => by simp [strideL]
  | x :: l, 0, k + 1 => by
    have := stride_get c l c k
    simp only [strideL, List.getElem?_cons_succ, this]
    rw [show 0 + (c + 1) * (k + 1) = (c + (c + 1) * k) + 1 by rw [Nat.mul_succ]; omega, List.getElem?_cons_succ]
  | x :: l, j + 1, k => by
    have := stride_get c l j k
    simp only [strideL, this]
    rw [show j + 1 + (c + 1) * k = (j + (c + 1) * k) + 1 by omega, List.getElem?_cons_succ]

theorem pick_up {α : Type} (l : List α) (a b c : Nat) (hb : b ≤ l.length) :
    (sliceRange (a : Int) (b : Int) ((c : Int) + 1)).filterMap (l[·]?) = strideL c 0 ((l.take b).drop a) := by
  have hc : (c : Int) + 1 > 0 := by omega
  unfold sliceRange
  simp only [hc, if_true]
  have key : ∀ k : Nat, (k < (if (a : Int) < b then ((b : Int) - a + (c + 1) - 1) / (c + 1) else 0).toNat) ↔ a + (c + 1) * k < b := by
    intro k
    by_cases hab : (a : Int) < b
    · rw [if_pos hab]
      have h1 : 0 ≤ ((b : Int) - a + (c + 1) - 1) / (c + 1) := Int.ediv_nonneg (by omega) (by omega)
      have h2 := Int.le_ediv_iff_mul_le (a := (k : Int) + 1) (b := (b : Int) - a + (c + 1) - 1) (c := (c : Int) + 1) hc
      have e : ((k : Int) + 1) * ((c : Int) + 1) = ((c : Int) + 1) * k + c + 1 := by rw [Int.add_mul, Int.mul_comm]; omega
      have e2 : (((c + 1) * k : Nat) : Int) = ((c : Int) + 1) * k := by push_cast; rfl
      constructor
      · intro h
        have : (k : Int) + 1 ≤ ((b : Int) - a + (c + 1) - 1) / (c + 1) := by omega
        have := h2.mp this
        rw [e] at this
        omega
      · intro h
        have : (k : Int) + 1 ≤ ((b : Int) - a + (c + 1) - 1) / (c + 1) := h2.mpr (by rw [e]; omega)
        omega
    · rw [if_neg hab]
      simp only [Int.toNat_zero]
      omega
  generalize (if (a : Int) < b then ((b : Int) - a + (c + 1) - 1) / (c + 1) else 0).toNat = n at key
  have ex : ∀ k : Nat, ((a : Int) + ((c : Int) + 1) * (k : Int)).toNat = a + (c + 1) * k := fun k => by
    rw [show (a : Int) + ((c : Int) + 1) * (k : Int) = ((a + (c + 1) * k : Nat) : Int) by push_cast; rfl]; exact Int.toNat_natCast _
  apply List.ext_getElem?
  intro k
  rw [fmGet, stride_get]
  · rw [List.getElem?_map, Nat.zero_add, List.getElem?_drop]
    by_cases hk : k < n
    · rw [List.getElem?_range hk, List.getElem?_take_of_lt ((key k).mp hk)]
      simp [ex]
    · rw [List.getElem?_eq_none (by simpa using hk), List.getElem?_eq_none]
      · rfl
      · rw [List.length_take]
        have := mt (key k).mpr hk
        omega
  · intro i hi
    obtain ⟨k, hk, rfl⟩ := List.mem_map.mp hi
    rw [ex]
    have := (key k).mp (List.mem_range.mp hk)
    rw [List.getElem?_eq_getElem (by omega)]; rfl

theorem stride_zero {α : Type} : ∀ l : List α, strideL 0 0 l = l
  | [] => rfl
  | x :: l => by rw [strideL, stride_zero l]

theorem take_min {α : Type} (l : List α) (n : Nat) : l.take (min n l.length) = l.take n := by
  rcases Nat.le_total n l.length with h | h
  · rw [Nat.min_eq_left h]
  · rw [Nat.min_eq_right h, List.take_length, List.take_of_length_le h]
theorem drop_take_min {α : Type} (l : List α) (a b : Nat) : ((l.take b).drop (min a l.length)) = (l.take b).drop a := by
  rcases Nat.le_total a l.length with h | h
  · rw [Nat.min_eq_left h]
  · rw [Nat.min_eq_right h, List.drop_eq_nil_of_le (by rw [List.length_take]; omega), List.drop_eq_nil_of_le (by rw [List.length_take]; omega)]

theorem clampI {a : Int} (n : Nat) (h : 0 ≤ a) : max 0 (min a (n : Int)) = ((min a.toNat n : Nat) : Int) := by omega
theorem clampS (n : Nat) : max 0 (min (n : Int) (n : Int)) = n := by omega
theorem clampZ (n : Nat) : max 0 (min (0 : Int) (n : Int)) = 0 := by omega
theorem succ_of_pos {c : Int} (h : 0 < c) : ∃ c' : Nat, c = (c' : Int) + 1 := ⟨(c - 1).toNat, by omega⟩
theorem pos_succ (c : Nat) : (c : Int) + 1 > 0 := by omega
theorem toNat_succ (c : Nat) : ((c : Int) + 1).toNat - 1 = c := by omega
theorem pickL_eq {α : Type} (l : List α) (lo hi st : Option Int) {l' : List α} (h : sliceL l lo hi st = some l') : pickL l lo hi st = l' := by
  have up : ∀ (a b : Int) (c : Nat), 0 ≤ a → 0 ≤ b → (sliceRange (max 0 (min a l.length)) (max 0 (min b l.length)) ((c : Int) + 1)).filterMap (l[·]?) = strideL c 0 ((l.take b.toNat).drop a.toNat) := by
    intro a b c ha hb
    rw [clampI l.length ha, clampI l.length hb, pick_up l _ _ c (Nat.min_le_right _ _), take_min, drop_take_min]
  have up0 : ∀ (b : Int) (c : Nat), 0 ≤ b → (sliceRange 0 (max 0 (min b l.length)) ((c : Int) + 1)).filterMap (l[·]?) = strideL c 0 (l.take b.toNat) := by
    intro b c hb
    have := up 0 b c (Int.le_refl _) hb
    rw [clampZ] at this
    simpa using this
  have upn : ∀ (a : Int) (c : Nat), 0 ≤ a → (sliceRange (max 0 (min a l.length)) (l.length : Int) ((c : Int) + 1)).filterMap (l[·]?) = strideL c 0 (l.drop a.toNat) := by
    intro a c ha
    have := up a l.length c ha (Int.natCast_nonneg _)
    rw [clampS] at this
    simpa using this
  unfold pickL
  rcases lo with _ | a <;> rcases hi with _ | b <;> rcases st with _ | c <;> simp only [sliceL] at h
  · cases h
    have := up0 l.length 0 (Int.natCast_nonneg _)
    rw [clampS] at this
    simpa [sliceBounds, stride_zero] using this
  · split at h
    · rename_i hc
      cases h
      subst hc
      have hn : ¬ ((-1 : Int) > 0) := by decide
      simp only [sliceBounds, Option.getD_some, hn, if_false]
      rw [krv_sliceRange]
      apply List.ext_getElem?
      intro k
      rw [fmGet]
      · rw [List.getElem?_map]
        by_cases hk : k < l.length
        · rw [List.getElem?_range hk, List.getElem?_reverse hk]; rfl
        · rw [List.getElem?_eq_none (by simpa using hk), List.getElem?_eq_none (by simpa using hk)]; rfl
      · intro i hi
        obtain ⟨k, hk, rfl⟩ := List.mem_map.mp hi
        have := List.mem_range.mp hk
        rw [List.getElem?_eq_getElem (by omega)]; rfl
    · cases h
  · split at h
    · rename_i hb
      cases h
      have := up0 b 0 hb
      have nb : ¬ b < 0 := Int.not_lt.mpr hb
      simpa [sliceBounds, stride_zero, nb] using this
    · cases h
  · cases h
  · split at h
    · rename_i ha
      cases h
      have := upn a 0 ha
      have na : ¬ a < 0 := Int.not_lt.mpr ha
      simpa [sliceBounds, stride_zero, na] using this
    · cases h
  · cases h
  · split at h
    · rename_i hab
      cases h
      have := up a b 0 hab.1 hab.2
      have na : ¬ a < 0 := Int.not_lt.mpr hab.1
      have nb : ¬ b < 0 := Int.not_lt.mpr hab.2
      simpa [sliceBounds, stride_zero, na, nb] using this
    · cases h
  · split at h
    · rename_i habc
      cases h
      obtain ⟨c', rfl⟩ := succ_of_pos habc.2.2
      have := up a b c' habc.1 habc.2.1
      have na : ¬ a < 0 := Int.not_lt.mpr habc.1
      have nb : ¬ b < 0 := Int.not_lt.mpr habc.2.1
      have hc : (c' : Int) + 1 > 0 := pos_succ c'
      have hc' : ((c' : Int) + 1).toNat - 1 = c' := toNat_succ c'
      simp only [sliceBounds, Option.getD_some, hc, if_true, na, if_false, nb, hc']
      exact this
    · cases h

theorem slicePick_eq (its : Array Value) (lo hi st : Option Int) : (slicePick its lo hi st) = (pickL its.toList lo hi st).toArray := by
  unfold slicePick pickL
  simp

theorem rdAll_take {f : TokMap} {Av : Addr → Prop} {h : Heap} : ∀ (n : Nat) {vs : List Value} {ds : List D}, RdAll f Av h vs ds → RdAll f Av h (vs.take n) (ds.take n)
  | 0, _, _, _ => by simp [RdAll.nil]
  | n + 1, _, [], r => by cases r; simp [RdAll.nil]
  | n + 1, _, d :: ds, ⟨v, ws, p, q1, q2⟩ => by subst p; exact .cons q1 (rdAll_take n q2)
theorem rdAll_drop {f : TokMap} {Av : Addr → Prop} {h : Heap} : ∀ (n : Nat) {vs : List Value} {ds : List D}, RdAll f Av h vs ds → RdAll f Av h (vs.drop n) (ds.drop n)
  | 0, _, _, r => by simpa using r
  | n + 1, _, [], r => by cases r; simp [RdAll.nil]
  | n + 1, _, d :: ds, ⟨v, ws, p, q1, q2⟩ => by subst p; exact rdAll_drop n q2
theorem rdAll_reverse {f : TokMap} {Av : Addr → Prop} {h : Heap} : ∀ {ds : List D} {vs : List Value}, RdAll f Av h vs ds → RdAll f Av h vs.reverse ds.reverse
  | [], _, r => by cases r; exact .nil
  | d :: ds, _, ⟨v, ws, p, q1, q2⟩ => by subst p; rw [List.reverse_cons, List.reverse_cons]; exact RdAll.append (.one q1) (rdAll_reverse q2)
theorem rdAll_stride {f : TokMap} {Av : Addr → Prop} {h : Heap} (c : Nat) : ∀ {ds : List D} {vs : List Value} (j : Nat), RdAll f Av h vs ds → RdAll f Av h (strideL c j vs) (strideL c j ds)
  | [], _, j, r => by cases r; cases j <;> exact .nil
  | d :: ds, _, 0, ⟨v, ws, p, q1, q2⟩ => by subst p; exact .cons q1 (rdAll_stride c c q2)
  | d :: ds, _, j + 1, ⟨v, ws, p, q1, q2⟩ => by subst p; exact rdAll_stride c j q2

theorem rdAll_slice {f : TokMap} {Av : Addr → Prop} {h : Heap} {vs : List Value} {ds es : List D} {lo hi st : Option Int} (r : RdAll f Av h vs ds) (e : sliceL ds lo hi st = some es) :
    ∃ ws, sliceL vs lo hi st = some ws ∧ RdAll f Av h ws es := by
  rcases lo with _ | a <;> rcases hi with _ | b <;> rcases st with _ | c <;> simp only [sliceL] at e ⊢
  · cases e; exact ⟨_, rfl, r⟩
  · split at e
    · cases e; rename_i q; exact ⟨_, if_pos q, rdAll_reverse r⟩
    · cases e
  · split at e
    · cases e; rename_i q; exact ⟨_, if_pos q, rdAll_take _ r⟩
    · cases e
  · cases e
  · split at e
    · cases e; rename_i q; exact ⟨_, if_pos q, rdAll_drop _ r⟩
    · cases e
  · cases e
  · split at e
    · cases e; rename_i q; exact ⟨_, if_pos q, rdAll_drop _ (rdAll_take _ r)⟩
    · cases e
  · split at e
    · cases e; rename_i q; exact ⟨_, if_pos q, rdAll_stride _ _ (rdAll_drop _ (rdAll_take _ r))⟩
    · cases e
end Mine
end

section
namespace Mine
open PySem PySem.W PyProof.Rows

section
variable {prog : Program} {w : World} {A : Around} {E : Value → Shared → Prop} {f : TokMap} {Av : Addr → Prop} {s : Shared} {a b : Value} {da db d : D}

theorem strOk_of_mem {x : Str} (h : PyData.strOk x = true) {l : List Nat} (hl : ∀ c ∈ l, c ∈ x.cps.toList) : PyData.strOk ⟨l.toArray⟩ = true := by
  unfold PyData.strOk at *
  rw [← Array.all_toList] at *
  rw [List.all_eq_true] at *
  exact fun c hc => h c (hl c (by simpa using hc))

/-! items -/
theorem item_sound {i : Value} {di : D} (h : itemD da di = some d) (hw : Wd f s.toks) (ra : Rd f Av s.heap a da) (ri : Rd f Av s.heap i di) :
    wpAny (model prog w) A (getItem a i) (Got A f Av s d) E s := by
  unfold itemD at h
  split at h
  · rename_i k hk
    obtain ⟨t, rfl⟩ := ri.num hk
    split at h
    · rename_i h0
      split at h
      · split at h
        · rename_i xs hsz
          obtain ⟨l, its, rfl, _, hl, r⟩ := ra
          obtain ⟨v, hv, hr⟩ := r.get h
          have hlen := r.length
          have hlt := (List.getElem?_eq_some_iff.mp h).1
          have : lim ≤ 2 ^ 62 := by decide
          exact wpAny_getItem_list hl h0 (by omega) (by simpa using hv) (.same .refl hw (Nat.le_refl _) hr)
        · cases h
      · split at h
        · rename_i x hsz
          obtain ⟨u, rfl, u0, uf, ok⟩ := ra
          obtain ⟨c, hc, rfl⟩ := Option.map_eq_some_iff.mp h
          have hlt := (List.getElem?_eq_some_iff.mp hc).1
          have hlt' : k.toNat < x.length := by simpa [Str.length] using hlt
          have hl : lim ≤ 2 ^ 62 := by decide
          refine P.getItem_str (c := c) ?_ ?_ (.str .tok hw (Nat.le_refl _) (Nat.lt_succ_self _) ?_)
          · rw [Bool.or_eq_false_iff, decide_eq_false_iff_not, decide_eq_false_iff_not]; omega
          · have e : seqIndex? k x.length = some k.toNat := by
              unfold seqIndex?
              have n0 : ¬ k < 0 := by omega
              simp only [n0, if_false]
              rw [if_pos]
              simp; omega
            rw [e]
            simpa using hc
          · have := strOk_of_mem ok (l := [c]) (fun y hy => by rw [List.mem_singleton.mp hy]; exact List.mem_of_getElem? hc)
            simpa using this
        · cases h
      · cases h
    · cases h
  · cases h

/-! slices -/
theorem part_is {v : Value} {p : Option Int} (h : da.part = some p) (r : Rd f Av s.heap v da) : IsPart v p ∧ ∃ q : Option (Int × Tok), v = partValue q ∧ q.map (·.1) = p := by
  cases da <;> simp only [D.part] at h <;> first | (cases h; done) | skip
  · cases h; cases r; exact ⟨.none, none, rfl, rfl⟩
  · cases h; obtain ⟨t, rfl, _, _⟩ := r; exact ⟨.int _ _, some (_, t), rfl, rfl⟩
  · cases h; obtain ⟨t, rfl⟩ := r; exact ⟨.int _ _, some (_, t), rfl, rfl⟩

theorem slice_sound {vl vu vs : Value} {lo hi st : D} {sl : Addr} (h : sliceD da lo hi st = some d) (hw : Wd f s.toks) (av : ∀ a, Av a → ∃ o, s.heap.get? a = some o) (ra : Rd f Av s.heap a da)
    (rl : Rd f Av s.heap vl lo) (ru : Rd f Av s.heap vu hi) (rs : Rd f Av s.heap vs st) (hs : s.heap.IsSliceOf sl vl vu vs) :
    wpAny (model prog w) A (getItem a (.ref sl)) (Got A f Av s d) E s := by
  unfold sliceD at h
  obtain ⟨pl, hpl, h⟩ := Option.bind_eq_some_iff.mp h
  obtain ⟨pu, hpu, h⟩ := Option.bind_eq_some_iff.mp h
  obtain ⟨ps, hps, h⟩ := Option.bind_eq_some_iff.mp h
  obtain ⟨il, ql, rfl, el⟩ := part_is hpl rl
  obtain ⟨iu, qu, rfl, eu⟩ := part_is hpu ru
  obtain ⟨is, qs, rfl, es⟩ := part_is hps rs
  cases da with
  | list xs =>
    dsimp only at h
    split at h
    · rename_i hsz
      obtain ⟨es, he, rfl⟩ := Option.map_eq_some_iff.mp h
      obtain ⟨l, its, rfl, _, hl, r⟩ := ra
      obtain ⟨ws, hws, r'⟩ := rdAll_slice r he
      have hp := pickL_eq _ _ _ _ hws
      have h0 : ps ≠ some 0 := by
        rintro rfl
        revert he
        rcases pl with _ | x <;> rcases pu with _ | y <;> simp [sliceL]
      have hlen := r.length
      rw [Array.length_toList] at hlen
      refine wpAny_getItem_list_slice hl hs il iu is h0 ?_ (by have := lim_le; omega)
      rw [slicePick_eq, hp]
      exact got_newList hw av r'
    · cases h
  | str x =>
    dsimp only at h
    obtain ⟨u, rfl, u0, uf, ok⟩ := ra
    have hsl : s.heap.IsSlice sl ql qu qs := hs
    rcases pl with _ | x' <;> rcases pu with _ | y' <;> rcases ps with _ | c <;> dsimp only at h <;> first | (cases h; done) | skip
    · split at h
      · rename_i hc
        cases h
        obtain ⟨rfl, hlim⟩ := hc
        have ql0 : ql = none := by cases ql <;> simp at el <;> rfl
        have qu0 : qu = none := by cases qu <;> simp at eu <;> rfl
        subst ql0 qu0
        have e1 : slicePicked x none none qs = (List.range x.length).map fun k => x.length - 1 - k := by
          unfold slicePicked
          rw [es]; exact picked_rev _
        have e2 : (slicePicked x none none qs).filterMap (x.cps[·]?) = x.cps.toList.reverse := by
          rw [e1]
          apply List.ext_getElem?
          intro k
          rw [fmGet]
          · rw [List.getElem?_map]
            by_cases hk : k < x.length
            · rw [List.getElem?_range hk, List.getElem?_reverse (by simpa [Str.length] using hk)]
              simp [Str.length]
            · rw [List.getElem?_eq_none (by simpa using hk), List.getElem?_eq_none (by simpa [Str.length] using hk)]; rfl
          · intro i hi
            obtain ⟨k, hk, rfl⟩ := List.mem_map.mp hi
            have := List.mem_range.mp hk
            have hh : x.length - 1 - k < x.cps.size := by simp only [Str.length] at *; omega
            rw [Array.getElem?_eq_getElem hh]; rfl
        refine wpAny_getItem_str_slice hsl ?_ ?_
        · rw [es]; rfl
        · unfold sliceMade
          rw [es]
          rw [if_neg (by simp)]
          rw [e2]
          refine ⟨?_, .str .tok hw (Nat.le_refl _) (Nat.lt_succ_self _) (strOk_of_mem ok fun c hc => by simpa using hc)⟩
          have : lim ≤ sizeLine := lim_le
          simp only [Str.length, List.size_toArray, List.length_reverse, Array.length_toList] at *
          omega
      · cases h
    · split at h
      · rename_i hc
        cases h
        obtain ⟨hx0, hxy, hyl, hlim⟩ := hc
        have qs0 : qs = none := by cases qs <;> simp at es <;> rfl
        subst qs0
        have e1 : slicePicked x ql qu none = Builtin.Str.strSliceIndices (some (x'.toNat : Int)) (some (y'.toNat : Int)) 1 x.length := by
          unfold slicePicked
          rw [el, eu, Int.toNat_of_nonneg hx0, Int.toNat_of_nonneg (by omega)]; rfl
        have e2 : (slicePicked x ql qu none).filterMap (x.cps[·]?) = (x.cps.toList.drop x'.toNat).take (y'.toNat - x'.toNat) := by
          rw [e1]; exact StrLaws.sliced_plain x (by omega) (by omega)
        have e3 : (slicePicked x ql qu none).length = y'.toNat - x'.toNat := by
          rw [e1, StrLaws.strSliceIndices_plain (by omega) (by omega)]; simp
        refine wpAny_getItem_str_slice hsl rfl ?_
        unfold sliceMade
        split
        · rename_i hh
          rw [Bool.and_eq_true, beq_iff_eq, beq_iff_eq, e3] at hh
          have hz : x'.toNat = 0 := by omega
          have hy : y'.toNat = x.length := by omega
          have ex : (⟨((x.cps.toList.drop x'.toNat).take (y'.toNat - x'.toNat)).toArray⟩ : Str) = x := by
            rw [hz, hy, List.drop_zero, Nat.sub_zero, List.take_of_length_le (by simp [Str.length])]
          rw [ex]
          exact .same .refl hw (Nat.le_refl _) ⟨u, rfl, u0, uf, ok⟩
        · rw [e2]
          refine ⟨?_, .str .tok hw (Nat.le_refl _) (Nat.lt_succ_self _) (strOk_of_mem ok fun c hc => List.mem_of_mem_drop (List.mem_of_mem_take hc))⟩
          have : lim ≤ sizeLine := lim_le
          simp only [Str.length, List.size_toArray, List.length_take, List.length_drop, Array.length_toList] at *
          omega
      · cases h
  | _ => cases h
end
end Mine
end

section
namespace Mine
open PySem PySem.W PyProof.Rows

theorem withToks {α : Type} {M : Model} {A : Around} {t : Sem α} {Q : α → Shared → Prop} {E : Value → Shared → Prop} {s : Shared}
    (h : wpAny M A t (fun v s' => s.toks ≤ s'.toks → Q v s') E s) : wpAny M A t Q E s :=
  wpAny_mono (wpAny_toks_of (n := s.toks) (Nat.le_refl _) h) (fun _ _ q => q.2 q.1) fun _ _ q => q.2

section
variable {prog : Program} {w : World} {A : Around} {E : Value → Shared → Prop} {f : TokMap} {Av : Addr → Prop} {s : Shared} {a b : Value} {da db d : D}

theorem intItems_of {h : Heap} : ∀ {ds : List D} {ns : List Int} {vs : List Value}, intsOf ds = some ns → RdAll f Av h vs ds → ∃ ts : List (Int × Tok), vs = ts.map (fun p => Value.int p.1 p.2) ∧ ts.map (·.1) = ns
  | [], _, _, e, r => by cases e; cases r; exact ⟨[], rfl, rfl⟩
  | d :: ds, ns, _, e, ⟨v, ws, p, q1, q2⟩ => by
    simp only [intsOf] at e
    obtain ⟨i, hi, e⟩ := Option.bind_eq_some_iff.mp e
    obtain ⟨ms, hm, rfl⟩ := Option.map_eq_some_iff.mp e
    obtain ⟨t, rfl⟩ := q1.num hi
    obtain ⟨ts, rfl, rfl⟩ := intItems_of hm q2
    exact ⟨(i, t) :: ts, p, rfl⟩

theorem sum_sound (h : sumD da = some d) (hh : A.handled = none) (hw : Wd f s.toks) (ra : Rd f Av s.heap a da) :
    wpAny (model prog w) A (call (.builtin "sum") [a]) (Got A f Av s d) E s := by
  cases da <;> simp only [sumD] at h <;> first | (cases h; done) | skip
  obtain ⟨ns, hn, rfl⟩ := Option.map_eq_some_iff.mp h
  obtain ⟨l, its, rfl, _, hl, r⟩ := ra
  obtain ⟨ts, e, rfl⟩ := intItems_of hn r
  have e' : its = intItems ts.toArray := by
    apply Array.toList_inj.mp
    rw [e]; simp [intItems]
  subst e'
  refine withToks (sum_intListG hh hl fun h' tk t' hk ht => ?_)
  rw [preSum_eq, List.take_of_length_le (by simp)]
  simp only
  exact .raw (.of hk) hw ht

theorem len_sound (h : lenD da = some d) (hw : Wd f s.toks) (ra : Rd f Av s.heap a da) :
    wpAny (model prog w) A (call (.builtin "len") [a]) (Got A f Av s d) E s := by
  have hl : lim ≤ 2 ^ 62 := by decide
  cases da <;> simp only [lenD] at h <;> first | (cases h; done) | skip
  · split at h
    · cases h
      rename_i x hsz
      obtain ⟨u, rfl, u0, uf, ok⟩ := ra
      exact P.len_str (by omega) (.int .tok hw (Nat.le_succ _) (Nat.lt_succ_self _))
    · cases h
  · split at h
    · cases h
      rename_i xs hsz
      obtain ⟨l, its, rfl, _, hl', r⟩ := ra
      have hlen := r.length
      rw [Array.length_toList] at hlen
      refine len_list hl' (by omega) ?_
      rw [hlen]
      exact .int .tok hw (Nat.le_succ _) (Nat.lt_succ_self _)
    · cases h

/-! «is» ahead of «==» -/
theorem isSame_any {x y : Value} {R : Bool → Shared → Prop} (nb : NoneBooked s.heap) (ra : Rd f Av s.heap x da) (rb : Rd f Av s.heap y db) (k : isKind da db = true)
    (h : ∀ c, (c = true → toP da = toP db) → R c s) : wpAny (model prog w) A (isSame x y) R E s := by
  have created : ∀ (c : Bool) (t u : Tok) (P : Prop), t ≠ 0 → u ≠ 0 → (t = u → toP da = toP db) → (c = true → toP da = toP db) → wpAny (model prog w) A (isSame.created c t u) R E s := by
    intro c t u _ t0 u0 h1 h2
    unfold isSame.created
    refine wpAny_ite ?_
    split
    · rename_i q; simp [t0, u0] at q
    refine wpAny_ite ?_
    split
    · rename_i q; exact wpAny_pure (h _ fun _ => h1 (by simpa using q))
    refine wpAny_ite ?_
    split
    · exact wpAny_pure (h _ fun q => by cases q)
    rename_i q
    have hc : c = true := by simpa using q
    refine wpAny_bind (wpAny_sharingNotTold_none nb ?_)
    first | rw [if_neg Bool.false_ne_true] | simp only [Bool.false_eq_true, if_false]
    refine wpAny_bind (wpAny_sharingNotTold_none nb ?_)
    first | rw [if_neg Bool.false_ne_true] | simp only [Bool.false_eq_true, if_false]
    exact wpAny_bind (wpAny_rule (wpAny_bind (wpAny_askSetting (wpAny_pure (h _ fun _ => h2 hc)))))
  unfold isKind at k
  split at k
  · rename_i i j
    obtain ⟨t, rfl, t0, tf⟩ := ra
    obtain ⟨u, rfl, u0, uf⟩ := rb
    have tu : t = u → toP (.int i) = toP (.int j) := fun q => by subst q; rw [tf] at uf; cases uf; rfl
    show wpAny _ A (if (i == j && smallInt i) = true then isSame.cachedInt t u else isSame.created (i == j) t u) R E s
    refine wpAny_ite ?_
    split
    · rename_i q
      unfold isSame.cachedInt
      refine wpAny_ite ?_
      split
      · rename_i q; simp [t0, u0] at q
      · exact wpAny_bind (wpAny_rule (wpAny_pure (h _ fun _ => by simp at q; rw [q.1])))
    · exact created _ t u True t0 u0 tu fun q => by simp at q; rw [q]
  · rename_i x y
    obtain ⟨t, rfl, t0, tf, _⟩ := ra
    obtain ⟨u, rfl, u0, uf, _⟩ := rb
    exact created _ t u True t0 u0 (fun q => by subst q; rw [tf] at uf; cases uf; rfl) fun q => by simp at q; rw [q]
  · rename_i p q
    cases ra
    cases rb
    refine wpAny_isSame_plain rfl (h _ fun e => ?_)
    have : p = q := by cases p <;> cases q <;> first | rfl | (simp at e)
    rw [this]
  · rename_i xs ys
    have ra' := ra
    have rb' := rb
    obtain ⟨l, its, rfl, _, hl, r⟩ := ra
    obtain ⟨m, jts, rfl, _, hm, q⟩ := rb
    by_cases e : l = m
    · subst e
      refine wpAny_isSame_ref_self (h _ fun _ => ?_)
      obtain ⟨c1, as, q1⟩ := Rd.reads _ ra'
      obtain ⟨c2, bs, q2⟩ := Rd.reads _ rb'
      exact SeqAt.Reads.unique _ _ _ _ _ c1 q1 q2
    · obtain ⟨o, ho, hc, _⟩ := hl
      obtain ⟨o', ho', hc', _⟩ := hm
      exact wpAny_isSame_ref_other e ho ho' (by rw [hc]; simp) (h _ fun q => by cases q)
  · cases k
end
end Mine
end

section
namespace Mine
open PySem PySem.W PyProof.Rows

noncomputable def KeepB (fp : List Addr) (h h' : Heap) : Prop := ∀ b o, b ∉ fp → h.get? b = some o → h'.get? b = some o
theorem KeepB.keepX {A : Around} {fp : List Addr} {h h' : Heap} (k : KeepB fp h h') : KeepX A (· ∈ fp) h h' := .of_but k

/-- an iterator over data: its item, and what the loop's head does with it -/
structure Itr (prog : Program) (w : World) (A : Around) (target : Expr) (Av : Addr → Prop) (I : Addr) (fp : List Addr) (ds : List D) (St : Nat → Heap → TokMap → Prop) : Prop where
  objs : ∀ i h f, St i h f → ∀ b ∈ fp, ∃ o vs, h.get? b = some o ∧ o.data = .fields vs
  frame : ∀ i h h' f f' (W : Addr → Prop), St i h f → Ext f f' → KeepX A W h h' → Clear W Av h → (∀ b ∈ fp, ¬ W b ∧ ¬ FS A b) → St i h' f'
  item : ∀ i d (s : Shared) (f : TokMap) (Q : Value → Shared → Prop) (E : Value → Shared → Prop), ds[i]? = some d → St i s.heap f → Wd f s.toks → (∀ b ∈ fp, ¬ FS A b) →
    (∀ v h' tk f', Ext f f' → Wd f' tk → s.toks ≤ tk → Rd f' Av h' v d → St (i + 1) h' f' → KeepB fp s.heap h' → Q v { s with heap := h', toks := tk }) →
    wpAny (model prog w) A (pyNext (.ref I)) (fun r s₁ => ∃ v, r = some v ∧ wpAny (model prog w) A (letOwnedTupleGo target (.ref I) v) (fun _ s₂ => Q v s₂) E s₁) E s
  done : ∀ (s : Shared) (f : TokMap) (Q : Option Value → Shared → Prop) (E : Value → Shared → Prop), St ds.length s.heap f →
    (∀ h' tk, s.toks ≤ tk → KeepB fp s.heap h' → Q none { s with heap := h', toks := tk }) → wpAny (model prog w) A (pyNext (.ref I)) Q E s
  self : ∀ i (s : Shared) (f : TokMap) (Q : Value → Shared → Prop) (E : Value → Shared → Prop), St i s.heap f → Q (.ref I) s → wpAny (model prog w) A (pyIter (.ref I)) Q E s

section
variable {prog : Program} {w : World} {A : Around} {E : Value → Shared → Prop} {f : TokMap} {Av : Addr → Prop} {s : Shared}

/-- the loop's head does nothing with an iterator that owns no tuple -/
theorem letGo_none {target : Expr} {I : Addr} {v : Value} {T : String} {o : Obj} {Q : Unit → Shared → Prop} (ho : s.heap.get? I = some o) (hc : o.cls = .type T)
    (hT : (["enumerate", "zip", "dict_itemiterator", "dict_reverseitemiterator", "odict_iterator", "itertools.zip_longest", "itertools.pairwise"].contains T) = false) (hQ : Q () s) :
    wpAny (model prog w) A (letOwnedTupleGo target (.ref I) v) Q E s := by
  have key : ∀ b : Addr, wpAny (model prog w) A (do
      let o ← load I
      match o.cls, o.data with
      | .type n, .fields vs =>
        if ["enumerate", "zip", "dict_itemiterator", "dict_reverseitemiterator", "odict_iterator", "itertools.zip_longest", "itertools.pairwise"].contains n && vs[0]? == some (rawInt b) then
          rule "for.unpacks-the-owned-tuple"
          updateField I 0 .none
      | _, _ => pure () : Sem Unit) Q E s := by
    intro b
    refine wpAny_bind (wpAny_load ho ?_)
    rw [hc]
    split
    · rename_i n vs e _
      cases e
      rw [if_neg (by rw [hT]; simp)]
      exact wpAny_pure hQ
    · exact wpAny_pure hQ
  unfold letOwnedTupleGo
  split
  · cases v <;> first | exact wpAny_pure hQ | exact key _
  · cases v <;> first | exact wpAny_pure hQ | exact key _
  · exact wpAny_pure hQ

theorem sameBut_keepB {I : Addr} {h h' : Heap} (k : Heap.SameBut I h h') : KeepB [I] h h' := fun b o n e => k.extBut b o (fun q => n (by simp [q])) e
theorem extBut_keepB {I : Addr} {h h' : Heap} (k : Heap.ExtBut I h h') : KeepB [I] h h' := fun b o n e => k b o (fun q => n (by simp [q])) e

theorem clear_fp {fp : List Addr} {h : Heap} {Av : Addr → Prop} (hf : ∀ b ∈ fp, ∃ o vs, h.get? b = some o ∧ o.data = .fields vs) : Clear (· ∈ fp) Av h := fun b o xs n hb e d => by
  obtain ⟨o', vs, e', d'⟩ := hf b hb
  rw [e] at e'; cases e'
  rw [d] at d'; cases d'

theorem exact_of {W : Addr → Prop} {h h' : Heap} {b : Addr} {o : Obj} (k : KeepX A W h h') (n : ¬ W b ∧ ¬ FS A b) (e : h.get? b = some o) : h'.get? b = some o := by
  obtain ⟨o', e', q, _⟩ := k b o n.1 e
  rw [q n.2] at e'; exact e'

/-- over a list -/
theorem itr_list (hh : A.handled = none) {target : Expr} {I l : Addr} {its : Array Value} {ds : List D} (hl : ¬ Av l) :
    Itr prog w A target Av I [I] ds (fun i h f => h.IsListIter I l i ∧ h.IsList l its ∧ RdAll f Av h its.toList ds) where
  objs := fun i h f st b hb => by
    rw [List.mem_singleton.mp hb]
    obtain ⟨⟨o, ho, _, hd⟩, _⟩ := st
    exact ⟨o, _, ho, hd⟩
  frame := fun i h h' f f' W st e k cl n => ⟨st.1.at fun o e => exact_of k (n I (by simp)) e, isList_keepC k cl hl st.2.1, RdAll.keepX k cl e ds st.2.2⟩
  item := fun i d s f Q E hd st hw _ hQ => by
    obtain ⟨v, hv, hr⟩ := st.2.2.get hd
    refine wpAny_pyNext_list_item st.1 st.2.1 (x := v) (by simpa using hv) fun h' hit' hs' => ⟨v, rfl, ?_⟩
    obtain ⟨o, ho, hc, _⟩ := id hit'
    refine letGo_none (T := "list_iterator") ho hc (by decide) ?_
    have cl : Clear (· ∈ [I]) Av s.heap := clear_fp fun b hb => by
      rw [List.mem_singleton.mp hb]
      obtain ⟨⟨o, ho, _, hd⟩, _⟩ := st
      exact ⟨o, _, ho, hd⟩
    have k : KeepX A (· ∈ [I]) s.heap h' := (sameBut_keepB hs').keepX
    exact hQ v h' s.toks f (.refl f) hw (Nat.le_refl _) (Rd.keepX k cl (.refl f) d hr) ⟨hit', isList_keepC k cl hl st.2.1, RdAll.keepX k cl (.refl f) ds st.2.2⟩ (sameBut_keepB hs')
  done := fun s f Q E st hQ => by
    have hlen := st.2.2.length
    rw [Array.length_toList] at hlen
    refine wpAny_pyNext_list_end hh st.1 st.2.1 (by simp [← hlen]) fun h' he' => hQ h' s.toks (Nat.le_refl _) (extBut_keepB he')
  self := fun i s f Q E st hQ => wpAny_pyIter_listiter st.1 hQ

theorem rangeL_get : ∀ (n : Nat) (a : Int) (i : Nat) (d : D), (rangeL a n)[i]? = some d → i < n ∧ d = .int (a + i)
  | 0, a, i, d, h => by simp [rangeL] at h
  | n + 1, a, 0, d, h => by simp [rangeL] at h; exact ⟨Nat.succ_pos _, by rw [← h]; simp⟩
  | n + 1, a, i + 1, d, h => by
    simp only [rangeL, List.getElem?_cons_succ] at h
    obtain ⟨h1, h2⟩ := rangeL_get n (a + 1) i d h
    exact ⟨Nat.succ_lt_succ h1, by rw [h2]; congr 1; push_cast; omega⟩
theorem rangeL_length : ∀ (n : Nat) (a : Int), (rangeL a n).length = n
  | 0, _ => rfl
  | n + 1, a => by simp [rangeL, rangeL_length n]

/-- over a range -/
theorem itr_range (hh : A.handled = none) {target : Expr} {I : Addr} (a : Int) (n : Nat) :
    Itr prog w A target Av I [I] (rangeL a n) (fun i h _ => IsRangeIter h I (a + (i : Nat)) ((n : Int) - (i : Nat)) 1) where
  objs := fun i h f st b hb => by rw [List.mem_singleton.mp hb]; exact ⟨_, _, st, rfl⟩
  frame := fun i h h' f f' W st e k cl nn => exact_of k (nn I (by simp)) st
  item := fun i d s f Q E hd st hw _ hQ => by
    obtain ⟨hi, rfl⟩ := rangeL_get n a i d hd
    refine wpAny_pyNext_range_item st (by omega) fun h' hit' hs' => ⟨_, rfl, letGo_none (T := "range_iterator") hit' rfl (by decide) ?_⟩
    have g : Got A f Av s (.int (a + i)) (.int (a + i) s.toks) { s with heap := s.heap, toks := s.toks + 1 } := .int .tok hw (Nat.le_refl _) (Nat.lt_succ_self _)
    obtain ⟨_, f', e', w', r'⟩ := g
    refine hQ _ h' _ f' e' w' (Nat.le_succ _) r' ?_ (sameBut_keepB hs')
    have e1 : a + ((i + 1 : Nat) : Int) = a + (i : Int) + 1 := by push_cast; omega
    have e2 : (n : Int) - ((i + 1 : Nat) : Int) = (n : Int) - (i : Int) - 1 := by push_cast; omega
    rw [e1, e2]; exact hit'
  done := fun s f Q E st hQ => by
    rw [rangeL_length] at st
    exact wpAny_pyNext_range_end hh st (by omega) fun h' he' => hQ h' s.toks (Nat.le_refl _) (extBut_keepB he')
  self := fun i s f Q E st hQ => wpAny_pyIter_rangeiter st hQ

/-- over a text of small signs -/
theorem itr_str (hh : A.handled = none) {target : Expr} {I : Addr} {x : Str} {t : Tok} (ok : PyData.strOk x = true) :
    Itr prog w A target Av I [I] (x.cps.toList.map fun c => .str ⟨#[c]⟩) (fun i h _ => h.IsStrIter I "str_ascii_iterator" x t i) where
  objs := fun i h f st b hb => by
    rw [List.mem_singleton.mp hb]
    obtain ⟨o, ho, _, hd⟩ := st
    exact ⟨o, _, ho, hd⟩
  frame := fun i h h' f f' W st e k cl nn => by
    obtain ⟨o, ho, r⟩ := st
    exact ⟨o, exact_of k (nn I (by simp)) ho, r⟩
  item := fun i d s f Q E hd st hw _ hQ => by
    rw [List.getElem?_map] at hd
    obtain ⟨c, hc, rfl⟩ := Option.map_eq_some_iff.mp hd
    refine wpAny_pyNext_ascii_item st (c := c) (by simpa using hc) fun h' hit' hs' => ⟨_, rfl, ?_⟩
    obtain ⟨o, ho, hcl, _⟩ := id hit'
    refine letGo_none (T := "str_ascii_iterator") ho hcl (by decide) ?_
    have okc : PyData.strOk ⟨#[c]⟩ = true := by
      have := strOk_of_mem ok (l := [c]) (fun y hy => by rw [List.mem_singleton.mp hy]; exact List.mem_of_getElem? hc)
      simpa using this
    have g : Got A f Av s (.str ⟨#[c]⟩) (.str ⟨#[c]⟩ s.toks) { s with heap := s.heap, toks := s.toks + 1 } := .str .tok hw (Nat.le_refl _) (Nat.lt_succ_self _) okc
    obtain ⟨_, f', e', w', r'⟩ := g
    exact hQ _ h' _ f' e' w' (Nat.le_succ _) r' hit' (sameBut_keepB hs')
  done := fun s f Q E st hQ => by
    rw [List.length_map, Array.length_toList] at st
    exact wpAny_pyNext_ascii_end hh st (by simp) fun h' he' => hQ h' s.toks (Nat.le_refl _) (extBut_keepB he')
  self := fun i s f Q E st hQ => wpAny_pyIter_striter_ascii st hQ

theorem enumL_get : ∀ (ds : List D) (a : Int) (i : Nat) (d : D), (enumL a ds)[i]? = some d → ∃ x, ds[i]? = some x ∧ d = .tuple [.int (a + i), x]
  | [], a, i, d, h => by simp [enumL] at h
  | x :: ds, a, 0, d, h => by simp [enumL] at h; exact ⟨x, rfl, by rw [← h]; simp⟩
  | x :: ds, a, i + 1, d, h => by
    simp only [enumL, List.getElem?_cons_succ] at h
    obtain ⟨y, h1, h2⟩ := enumL_get ds (a + 1) i d h
    exact ⟨y, by simpa using h1, by rw [h2]; congr 2; congr 1; push_cast; omega⟩
theorem enumL_length : ∀ (ds : List D) (a : Int), (enumL a ds).length = ds.length
  | [], _ => rfl
  | x :: ds, a => by simp [enumL, enumL_length ds]

/-- over enumerate of a list, its tuples unpacked -/
theorem itr_enum (hh : A.handled = none) {elts : List Expr} {k : Nat} {pos : Pos} {I J l : Addr} {its : Array Value} {ds : List D} (hl : ¬ Av l) (hIJ : I ≠ J) :
    Itr prog w A (.Tuple elts k pos) Av I [I, J] (enumL 0 ds) (fun i h f => (∃ old, IsEnum h I J i old) ∧ h.IsListIter J l i ∧ h.IsList l its ∧ RdAll f Av h its.toList ds) where
  objs := fun i h f st b hb => by
    obtain ⟨⟨old, he⟩, ⟨o, ho, _, hd⟩, _⟩ := st
    rcases List.mem_cons.mp hb with rfl | hb
    · exact ⟨_, _, he, rfl⟩
    · rw [List.mem_singleton.mp hb]; exact ⟨o, _, ho, hd⟩
  frame := fun i h h' f f' W st e k cl n => ⟨let ⟨old, he⟩ := st.1; ⟨old, exact_of k (n I (by simp)) he⟩, st.2.1.at fun o e => exact_of k (n J (by simp)) e, isList_keepC k cl hl st.2.2.1, RdAll.keepX k cl e ds st.2.2.2⟩
  item := fun i d s f Q E hd st hw hfs hQ => by
    obtain ⟨x, hx, rfl⟩ := enumL_get ds 0 i d hd
    obtain ⟨⟨old, he⟩, hit, hli, hra⟩ := st
    obtain ⟨v, hv, hr⟩ := hra.get hx
    refine wpAny_pyNext_enum_item he hit hli (x := v) (by simpa using hv) hIJ fun h' ho hit' hT hsz hk => ⟨_, rfl, wpAny_letOwnedTupleGo_enum ho fun h₂ he₂ hs₂ => ?_⟩
    have kB : KeepB [I, J] s.heap h₂ := fun b o n e => hs₂.extBut b o (fun q => n (by simp [q])) (hk b o (fun q => n (by simp [q])) (fun q => n (by simp [q])) e)
    have cl : Clear (· ∈ [I, J]) Av s.heap := clear_fp fun b hb => by
      obtain ⟨o, ho, _, hd⟩ := hit
      rcases List.mem_cons.mp hb with rfl | hb
      · exact ⟨_, _, he, rfl⟩
      · rw [List.mem_singleton.mp hb]; exact ⟨o, _, ho, hd⟩
    have kX : KeepX A (· ∈ [I, J]) s.heap h₂ := kB.keepX
    have hIT : I ≠ s.heap.objs.size := Nat.ne_of_lt (Heap.lt_size he)
    have hT₂ : h₂.get? s.heap.objs.size = some { cls := .type "tuple", data := .seq #[.int i s.toks, v] } := hs₂.extBut _ _ (Ne.symm hIT) hT
    have g : Got A f Av s (.int i) (.int i s.toks) { s with heap := s.heap, toks := s.toks + 1 } := .int .tok hw (Nat.le_refl _) (Nat.lt_succ_self _)
    obtain ⟨_, f', e', w', r'⟩ := g
    refine hQ _ h₂ _ f' e' w' (Nat.le_succ _) ?_ ⟨⟨v, by simpa using he₂⟩, hit'.extBut hs₂.extBut (Ne.symm hIJ), isList_keepC kX cl hl hli, RdAll.keepX kX cl e' ds hra⟩ kB
    refine ⟨_, #[.int i s.toks, v], rfl, ⟨_, hT₂, rfl, 0, rfl⟩, .cons ?_ (.cons (Rd.keepX kX cl e' x hr) .nil)⟩
    rw [Int.zero_add]; exact r'
  done := fun s f Q E st hQ => by
    obtain ⟨⟨old, he⟩, hit, hli, hra⟩ := st
    rw [enumL_length] at he hit
    have hlen := hra.length
    rw [Array.length_toList] at hlen
    refine wpAny_pyNext_enum_end hh he hit hli (by simp [← hlen]) fun h' hx => hQ h' s.toks (Nat.le_refl _) fun b o n e => hx b o (fun q => n (by simp [q])) e
  self := fun i s f Q E st hQ => let ⟨old, he⟩ := st.1; wpAny_pyIter_enum he hQ
end
end Mine
end

section
namespace Mine
open PySem PySem.W PyProof.Rows

section
variable {prog : Program} {w : World} {A : Around} {E : Value → Shared → Prop} {f : TokMap} {Av : Addr → Prop} {s : Shared}
  {tab : Nat → Str} {h₁ : Heap} {mg mb : Str → Option Value} {env : Env} {kinds : List (Str × NameKind)} {ρ : Vw}

/-- no name of the table is one of the compiler's own -/
structure TabOk (tab : Nat → Str) : Prop where
  inj : ∀ i j, tab i = tab j → i = j
  dbg : ∀ i, (tab i == ("__debug__" : Str)) = false
  cld : ∀ i, (tab i == ("__classdict__" : Str)) = false

theorem kindOf_eq (ok : EnvOk env kinds s.heap) (x : Str) : env.kindOf x = kinds.lookup x := by
  unfold Env.kindOf; rw [ok.names]

/-- a variable's value -/
theorem var_sound (T : TabOk tab) (cx : Cx tab h₁ A env kinds ρ f Av s) {i : Nat} {p : Pos} {d : D} (h : ρ i = some d) :
    wpAny (model prog w) A (eval (.Name (tab i) p) env) (Got A f Av s d) E s := by
  obtain ⟨v, hv, hr⟩ := cx.rel i d h
  have fin : Got A f Av s d v s := .same .refl cx.wd (Nat.le_refl _) hr
  refine wpAny_Name ?_ (T.dbg i)
  rcases hv with ⟨hk, m, hn, hm⟩ | ⟨hk, c, hc, hcell⟩
  · exact wpAny_loadName_local cx.ok.kind hk hn hm fin
  · rcases hk with hk | hk
    · exact wpAny_loadName_cell cx.ok.kind hk hc hcell fin
    · exact wpAny_loadName_free cx.ok.kind hk hc hcell fin (T.cld i)

theorem nameB (B : BaseOk h₁ mg mb) (cx : Cx tab h₁ A env kinds ρ f Av s) {x : Str} {p : Pos} {v : Value} {Q : Value → Shared → Prop} (hx : kinds.lookup x = some .globalImplicit)
    (hb : x ∈ (["sum", "len", "min", "max", "range", "enumerate", "list", "ValueError"] : List Str)) (hv : bootBuiltins x = some v) (hn : x ≠ "__name__") (hd : (x == ("__debug__" : Str)) = false) (h : Q v s) :
    wpAny (model prog w) A (eval (.Name x p) env) Q E s := by
  have g : s.heap.Ns env.globals mg := by rw [cx.ok.globals]; exact B.g.keeps cx.si.base
  have b : s.heap.Ns env.builtins mb := by rw [cx.ok.builtins]; exact B.b.keeps cx.si.base
  exact Calls.Name_function_global cx.ok.kind (by rw [kindOf_eq cx.ok]; exact hx) (Calls.loadGlobal_builtin g (B.miss x hb) b ((B.bi x hn).trans hv) h) hd
theorem nameG (B : BaseOk h₁ mg mb) (cx : Cx tab h₁ A env kinds ρ f Av s) {x : Str} {p : Pos} {v : Value} {Q : Value → Shared → Prop} (hx : kinds.lookup x = some .globalImplicit)
    (hv : mg x = some v) (hd : (x == ("__debug__" : Str)) = false) (h : Q v s) :
    wpAny (model prog w) A (eval (.Name x p) env) Q E s := by
  have g : s.heap.Ns env.globals mg := by rw [cx.ok.globals]; exact B.g.keeps cx.si.base
  exact Calls.Name_function_global cx.ok.kind (by rw [kindOf_eq cx.ok]; exact hx) (Calls.loadGlobal_global g hv h) hd

theorem boot_sum' : bootBuiltins "sum" = some (.builtin "sum") := by decide +kernel
theorem boot_len' : bootBuiltins "len" = some (.builtin "len") := by decide +kernel
theorem boot_range' : bootBuiltins "range" = some (.type "range") := by decide +kernel
theorem boot_enum' : bootBuiltins "enumerate" = some (.type "enumerate") := by decide +kernel
theorem boot_list' : bootBuiltins "list" = some (.type "list") := by decide +kernel

/-! stores -/
/-- where a store of x goes -/
noncomputable def WS (env : Env) (x : Str) : Addr → Prop := fun b => (env.kindOf x = some .local ∧ b = env.locals) ∨ (env.kindOf x = some .cell ∧ env.cells.lookup x = some b)

theorem ws_clear {h : Heap} (ok : EnvOk env kinds h) (x : Str) : Clear (WS env x) Av h := fun b o xs n hb e d => by
  rcases hb with ⟨_, rfl⟩ | ⟨hk, hc⟩
  · obtain ⟨m, o', es, ep, ho, hd, _⟩ := ok.ns
    rw [ho] at e; cases e
    rw [hd] at d; cases d
  · obtain ⟨c, v, hc', o', ho, hd⟩ := ok.cells x (.inl hk)
    rw [hc] at hc'; cases hc'
    rw [ho] at e; cases e
    rw [hd] at d; cases d

theorem cell_ne {h : Heap} (ok : EnvOk env kinds h) {x y : Str} {b c : Addr} (hxy : x ≠ y) (hx : env.cells.lookup x = some b) (hy : env.cells.lookup y = some c) : b ≠ c := fun e => by
  subst e
  exact hxy (name_of_addr ok.apart (mem_of_lookup hx) (mem_of_lookup hy))

theorem store_sound {x : Str} {v : Value} {Q : Unit → Shared → Prop} (ok : EnvOk env kinds s.heap) (hk : kinds.lookup x = some .local ∨ kinds.lookup x = some .cell)
    (hQ : ∀ h' tk, s.toks ≤ tk → KeepX A (WS env x) s.heap h' → (∀ b, WS env x b → ∃ o', h'.get? b = some o' ∧ ∀ vs, o'.data ≠ .fields vs) → EnvOk env kinds h' → VarAt env h' x v → (∀ y u, y ≠ x → VarAt env s.heap y u → VarAt env h' y u) → Q () { s with heap := h', toks := tk }) :
    wpAny (model prog w) A (storeName env x v) Q E s := by
  rw [← kindOf_eq ok] at hk
  rcases hk with hk | hk
  · obtain ⟨m, hn⟩ := ok.ns
    refine wpAny_storeName_local hk hn (fun h' hn' hs' => hQ h' _ (Nat.le_succ _) (.of_but fun b o nb e => hs'.extBut b o (fun q => nb (.inl ⟨hk, q⟩)) e) ?_ ?_ ?_ ?_) ?_
    · intro b hb
      rcases hb with ⟨_, rfl⟩ | ⟨q, _⟩
      · obtain ⟨o, es, ep, ho, hd, _⟩ := hn'
        exact ⟨o, ho, fun vs q => by rw [hd] at q; cases q⟩
      · rw [hk] at q; cases q
    · refine ⟨ok.kind, ok.names, ok.globals, ok.builtins, ⟨_, hn'⟩, fun n hnk => ?_, ok.apart⟩
      obtain ⟨c, u, hc, hcell⟩ := ok.cells n hnk
      refine ⟨c, u, hc, hcell.sameBut hs' ?_⟩
      rintro rfl
      obtain ⟨o, ho, hd⟩ := hcell
      obtain ⟨o', _, _, ho', hd', _⟩ := hn
      rw [ho] at ho'; cases ho'
      rw [hd] at hd'; cases hd'
    · exact .inl ⟨hk, _, hn', by simp⟩
    · intro y u hyx hy
      rcases hy with ⟨hky, m', hm', hu⟩ | ⟨hky, c, hc, hcell⟩
      · refine .inl ⟨hky, _, hn', ?_⟩
        rw [if_neg hyx]
        obtain ⟨o, es, ep, ho, hd, _, hf⟩ := hn
        obtain ⟨o', es', ep', ho', hd', _, hf'⟩ := hm'
        rw [ho] at ho'; cases ho'
        rw [hd] at hd'; cases hd'
        rw [← hf y, hf' y]; exact hu
      · refine .inr ⟨hky, c, hc, hcell.sameBut hs' ?_⟩
        rintro rfl
        obtain ⟨o, ho, hd⟩ := hcell
        obtain ⟨o', _, _, ho', hd', _⟩ := hn
        rw [ho] at ho'; cases ho'
        rw [hd] at hd'; cases hd'
    · rw [ok.kind]; rfl
  · obtain ⟨c, u, hc, hcell⟩ := ok.cells x (.inl hk)
    refine wpAny_storeName_cell ok.kind hk hc hcell fun h' hv hs' => hQ h' s.toks (Nat.le_refl _) (.of_but fun b o nb e => hs'.extBut b o (fun q => nb (.inr ⟨hk, by rw [q]; exact hc⟩)) e) ?_ ?_ ?_ ?_
    · intro b hb
      rcases hb with ⟨q, _⟩ | ⟨_, q⟩
      · rw [hk] at q; cases q
      · rw [hc] at q; cases q
        obtain ⟨o, ho, hd⟩ := hv
        exact ⟨o, ho, fun vs q => by rw [hd] at q; cases q⟩
    · refine ⟨ok.kind, ok.names, ok.globals, ok.builtins, ?_, fun n hn => ?_, ok.apart⟩
      · obtain ⟨m, hn⟩ := ok.ns
        refine ⟨m, hn.sameBut hs' ?_⟩
        rintro rfl
        obtain ⟨o, ho, hd⟩ := hcell
        obtain ⟨o', _, _, ho', hd', _⟩ := hn
        rw [ho] at ho'; cases ho'
        rw [hd] at hd'; cases hd'
      · by_cases e : n = x
        · subst e; exact ⟨c, _, hc, hv⟩
        · obtain ⟨c', u', hc', hcell'⟩ := ok.cells n hn
          exact ⟨c', u', hc', hcell'.sameBut hs' (cell_ne ok e hc' hc)⟩
    · exact .inr ⟨.inl hk, c, hc, hv⟩
    · intro y u' hyx hy
      rcases hy with ⟨hky, m', hm', hu⟩ | ⟨hky, c', hc', hcell'⟩
      · refine .inl ⟨hky, m', hm'.sameBut hs' ?_, hu⟩
        rintro rfl
        obtain ⟨o, ho, hd⟩ := hcell
        obtain ⟨o', _, _, ho', hd', _⟩ := hm'
        rw [ho] at ho'; cases ho'
        rw [hd] at hd'; cases hd'
      · exact .inr ⟨hky, c', hc', hcell'.sameBut hs' (cell_ne ok hyx hc' hc)⟩

/-- a store turns the view at one place -/
theorem cx_store (T : TabOk tab) (cx : Cx tab h₁ A env kinds ρ f Av s) {i : Nat} {v : Value} {d : D} (hr : Rd f Av s.heap v d) {h' : Heap} {tk : Nat} (ht : s.toks ≤ tk)
    (k : KeepX A (WS env (tab i)) s.heap h') (hw : ∀ b, WS env (tab i) b → ∃ o', h'.get? b = some o' ∧ ∀ vs, o'.data ≠ .fields vs) (ok : EnvOk env kinds h')
    (hv : VarAt env h' (tab i) v) (ho : ∀ y u, y ≠ tab i → VarAt env s.heap y u → VarAt env h' y u) :
    Cx tab h₁ A env kinds (upd ρ i d) f Av { s with heap := h', toks := tk } := by
  have cl := ws_clear (Av := Av) cx.ok (tab i)
  refine ⟨cx.si.keepX k (fun b o hb e => ?_) hw, ok, cx.lo, cx.ce, fun a ha => ?_, cx.wd.mono ht, fun j dj hj => ?_⟩
  · rcases hb with ⟨_, rfl⟩ | ⟨_, hc⟩
    · rw [cx.lo] at e; cases e
    · rw [cx.ce _ _ hc] at e; cases e
  · obtain ⟨o, e⟩ := cx.av a ha
    by_cases q : WS env (tab i) a
    · obtain ⟨o', e', _⟩ := hw a q; exact ⟨o', e'⟩
    · obtain ⟨o', e', _⟩ := k a o q e; exact ⟨o', e'⟩
  · unfold upd at hj
    by_cases q : j = i
    · subst q
      rw [if_pos rfl] at hj
      cases hj
      exact ⟨v, hv, Rd.keepX k cl (.refl f) d hr⟩
    · rw [if_neg q] at hj
      obtain ⟨u, hu, hru⟩ := cx.rel j dj hj
      exact ⟨u, ho _ _ (fun e => q (T.inj _ _ e)) hu, Rd.keepX k cl (.refl f) dj hru⟩
end
end Mine
end

section
namespace Mine
open PySem PySem.W PyProof.Rows

/-! the cells of a comprehension's block -/
theorem cellsFrom_lookup_other : ∀ (names : List (Str × NameKind)) (k : Nat) (acc : List (Str × Addr)) (n : Str), (∀ x ∈ names, x.1 = n → x.2 ≠ .cell) → (cellsFrom k names acc).lookup n = acc.lookup n
  | [], _, _, _, _ => rfl
  | (m, kd) :: r, k, acc, n, h => by
    unfold cellsFrom
    have hr : ∀ x ∈ r, x.1 = n → x.2 ≠ .cell := fun x hx => h x (List.mem_cons_of_mem _ hx)
    split
    · rename_i hk
      have hmn : n ≠ m := fun e => h (m, kd) (List.mem_cons_self ..) e.symm (by simpa using hk)
      rw [cellsFrom_lookup_other r _ _ n hr, List.lookup_cons]
      have : (n == m) = false := by simpa using hmn
      rw [this]
    · exact cellsFrom_lookup_other r _ _ n hr

theorem nodup_tail_ne {r : List (Str × NameKind)} {m : Str} {kd : NameKind} (h : (((m, kd) :: r).map (·.1)).Nodup) : ∀ x ∈ r, x.1 ≠ m := fun x hx e => by
  rw [List.map_cons, List.nodup_cons] at h
  exact h.1 (List.mem_map.mpr ⟨x, hx, e⟩)

theorem cellsFrom_lookup_own : ∀ (names : List (Str × NameKind)) (h : Heap) (acc : List (Str × Addr)) (n : Str), (names.map (·.1)).Nodup → names.lookup n = some .cell →
    ∃ c, (cellsFrom h.objs.size names acc).lookup n = some c ∧ h.objs.size ≤ c ∧ (pushCells h names).IsCell c none
  | [], _, _, _, _, e => by simp at e
  | (m, kd) :: r, h, acc, n, hn, e => by
    have hn' : (r.map (·.1)).Nodup := by rw [List.map_cons, List.nodup_cons] at hn; exact hn.2
    unfold cellsFrom pushCells
    rw [List.lookup_cons] at e
    cases hb : n == m with
    | true =>
      rw [hb] at e
      have hm : n = m := by simpa using hb
      cases e
      rw [if_pos (by rfl), if_pos (by rfl)]
      refine ⟨h.objs.size, ?_, Nat.le_refl _, ?_⟩
      · rw [cellsFrom_lookup_other r _ _ n (fun x hx q => absurd (q.trans hm) (nodup_tail_ne hn x hx)), List.lookup_cons, hb]
      · exact ⟨_, pushCells_keeps r _ _ _ (Heap.get?_push_size _ rfl), rfl⟩
    | false =>
      rw [hb] at e
      split
      · obtain ⟨c, h1, h2, h3⟩ := cellsFrom_lookup_own r (h.push { cls := .type "cell", data := .cell none }) ((m, h.objs.size) :: acc) n hn' e
        rw [Heap.size_push] at h1 h2
        exact ⟨c, h1, by omega, h3⟩
      · exact cellsFrom_lookup_own r h acc n hn' e

theorem cellsFrom_mem : ∀ (names : List (Str × NameKind)) (k : Nat) (acc : List (Str × Addr)) (n : Str) (c : Addr), (n, c) ∈ cellsFrom k names acc → (n, c) ∈ acc ∨ k ≤ c
  | [], _, _, _, _, h => .inl h
  | (m, kd) :: r, k, acc, n, c, h => by
    unfold cellsFrom at h
    split at h
    · rcases cellsFrom_mem r _ _ n c h with h | h
      · rcases List.mem_cons.mp h with e | h
        · cases e; exact .inr (Nat.le_refl _)
        · exact .inl h
      · exact .inr (by omega)
    · exact cellsFrom_mem r _ _ n c h

theorem cellsFrom_apart : ∀ (names : List (Str × NameKind)) (k : Nat) (acc : List (Str × Addr)), acc.Pairwise (fun x y => x.2 ≠ y.2) → (∀ x ∈ acc, x.2 < k) → (cellsFrom k names acc).Pairwise (fun x y => x.2 ≠ y.2)
  | [], _, _, h, _ => h
  | (m, kd) :: r, k, acc, h, hl => by
    unfold cellsFrom
    split
    · refine cellsFrom_apart r _ _ (List.pairwise_cons.mpr ⟨fun x hx e => ?_, h⟩) fun x hx => ?_
      · have h1 := hl x hx
        have e' : k = x.2 := e
        rw [← e'] at h1
        exact Nat.lt_irrefl _ h1
      · rcases List.mem_cons.mp hx with rfl | hx
        · exact Nat.lt_succ_self _
        · exact Nat.lt_succ_of_lt (hl x hx)
    · exact cellsFrom_apart r _ _ h hl

/-! what a block takes from outside -/
noncomputable def closL (env : Env) : List (Str × NameKind) → List (Str × Addr) → List (Str × Addr)
  | [], acc => acc
  | (n, k) :: r, acc => if k == .free then closL env r ((n, (env.cells.lookup n).getD 0) :: acc) else closL env r acc

theorem closureFor_eq {scope : Scope} {env : Env} (h : ∀ x ∈ scope.names, x.2 = .free → ∃ c, env.cells.lookup x.1 = some c) : closureFor scope env = pure (closL env scope.names []) := by
  have key : ∀ (names : List (Str × NameKind)) (acc : List (Str × Addr)), (∀ x ∈ names, x.2 = .free → ∃ c, env.cells.lookup x.1 = some c) →
      (forIn names acc (fun x cs => if (x.2 == NameKind.free) = true then do let c ← cellOf env x.1; pure (ForInStep.yield ((x.1, c) :: cs)) else pure (ForInStep.yield cs)) : Sem (List (Str × Addr))) = pure (closL env names acc) := by
    intro names
    induction names with
    | nil => intro acc _; rfl
    | cons x r ih =>
      intro acc hx
      obtain ⟨n, k⟩ := x
      rw [List.forIn_cons]
      unfold closL
      cases hk : k == NameKind.free with
      | true =>
        obtain ⟨c, hc⟩ := hx (n, k) (List.mem_cons_self ..) (by simpa using hk)
        have hco : cellOf env n = pure c := by unfold cellOf; rw [hc]
        simp only [hk, if_true, hco, pure_bind]
        rw [ih _ fun y hy => hx y (List.mem_cons_of_mem _ hy)]
        simp only [hc, Option.getD_some]
      | false =>
        simp only [hk, Bool.false_eq_true, if_false, pure_bind]
        exact ih _ fun y hy => hx y (List.mem_cons_of_mem _ hy)
  have := key scope.names [] h
  have e : closureFor scope env = (forIn scope.names ([] : List (Str × Addr)) (fun x cs => if (x.2 == NameKind.free) = true then do let c ← cellOf env x.1; pure (ForInStep.yield ((x.1, c) :: cs)) else pure (ForInStep.yield cs)) : Sem (List (Str × Addr))) := by
    unfold closureFor
    refine (bind_pure _).trans ?_
    congr 1
  rw [e, this]

theorem closL_lookup_other {env : Env} : ∀ (names : List (Str × NameKind)) (acc : List (Str × Addr)) (n : Str), (∀ x ∈ names, x.1 = n → x.2 ≠ .free) → (closL env names acc).lookup n = acc.lookup n
  | [], _, _, _ => rfl
  | (m, kd) :: r, acc, n, h => by
    unfold closL
    have hr : ∀ x ∈ r, x.1 = n → x.2 ≠ .free := fun x hx => h x (List.mem_cons_of_mem _ hx)
    split
    · rename_i hk
      have hmn : n ≠ m := fun e => h (m, kd) (List.mem_cons_self ..) e.symm (by simpa using hk)
      rw [closL_lookup_other r _ n hr, List.lookup_cons]
      have : (n == m) = false := by simpa using hmn
      rw [this]
    · exact closL_lookup_other r _ n hr
theorem closL_lookup_free {env : Env} : ∀ (names : List (Str × NameKind)) (acc : List (Str × Addr)) (n : Str), (names.map (·.1)).Nodup → names.lookup n = some .free → (closL env names acc).lookup n = some ((env.cells.lookup n).getD 0)
  | [], _, _, _, e => by simp at e
  | (m, kd) :: r, acc, n, hn, e => by
    have hn' : (r.map (·.1)).Nodup := by rw [List.map_cons, List.nodup_cons] at hn; exact hn.2
    unfold closL
    rw [List.lookup_cons] at e
    cases hb : n == m with
    | true =>
      rw [hb] at e
      have hm : n = m := by simpa using hb
      cases e
      rw [if_pos (by rfl), closL_lookup_other r _ n (fun x hx q => absurd (q.trans hm) (nodup_tail_ne hn x hx)), List.lookup_cons, hb, hm]
    | false =>
      rw [hb] at e
      split
      · exact closL_lookup_free r _ n hn' e
      · exact closL_lookup_free r _ n hn' e
theorem closL_mem {env : Env} : ∀ (names : List (Str × NameKind)) (acc : List (Str × Addr)) (n : Str) (c : Addr), (n, c) ∈ closL env names acc → (n, c) ∈ acc ∨ ((n, .free) ∈ names ∧ c = (env.cells.lookup n).getD 0)
  | [], _, _, _, h => .inl h
  | (m, kd) :: r, acc, n, c, h => by
    unfold closL at h
    split at h
    · rename_i hk
      have hk' : kd = .free := by simpa using hk
      subst hk'
      rcases closL_mem r _ n c h with h | ⟨h1, h2⟩
      · rcases List.mem_cons.mp h with e | h
        · cases e; exact .inr ⟨List.mem_cons_self .., rfl⟩
        · exact .inl h
      · exact .inr ⟨List.mem_cons_of_mem _ h1, h2⟩
    · rcases closL_mem r _ n c h with h | ⟨h1, h2⟩
      · exact .inl h
      · exact .inr ⟨List.mem_cons_of_mem _ h1, h2⟩
theorem closL_apart {env : Env} (ap : ∀ n n' c, env.cells.lookup n = some c → env.cells.lookup n' = some c → n = n') : ∀ (names : List (Str × NameKind)) (acc : List (Str × Addr)), (names.map (·.1)).Nodup →
    (∀ x ∈ names, x.2 = .free → ∃ c, env.cells.lookup x.1 = some c) → acc.Pairwise (fun x y => x.2 ≠ y.2) → (∀ x ∈ acc, env.cells.lookup x.1 = some x.2 ∧ x.1 ∉ names.map (·.1)) → (closL env names acc).Pairwise (fun x y => x.2 ≠ y.2)
  | [], _, _, _, h, _ => h
  | (m, kd) :: r, acc, hn, hf, h, ha => by
    have hn' := hn
    rw [List.map_cons, List.nodup_cons] at hn'
    have hf' : ∀ x ∈ r, x.2 = .free → ∃ c, env.cells.lookup x.1 = some c := fun x hx => hf x (List.mem_cons_of_mem _ hx)
    unfold closL
    split
    · rename_i hk
      obtain ⟨c, hc⟩ := hf (m, kd) (List.mem_cons_self ..) (by simpa using hk)
      have hc' : env.cells.lookup m = some c := hc
      rw [hc']
      refine closL_apart ap r _ hn'.2 hf' (List.pairwise_cons.mpr ⟨fun x hx e => ?_, h⟩) fun x hx => ?_
      · have := (ha x hx)
        have e' : c = x.2 := e
        have := ap m x.1 c hc' (by rw [e']; exact this.1)
        exact (ha x hx).2 (by rw [← this]; exact List.mem_cons_self ..)
      · rcases List.mem_cons.mp hx with rfl | hx
        · exact ⟨hc', hn'.1⟩
        · exact ⟨(ha x hx).1, fun q => (ha x hx).2 (List.mem_cons_of_mem _ q)⟩
    · exact closL_apart ap r _ hn'.2 hf' h fun x hx => ⟨(ha x hx).1, fun q => (ha x hx).2 (List.mem_cons_of_mem _ q)⟩

/-- the kinds within -/
noncomputable def innerKinds (kinds : List (Str × NameKind)) (sc : Scope) : List (Str × NameKind) :=
  sc.names.map fun x => (x.1, if (x.2 == .free && kinds.lookup x.1 == some .cell) then .cell else x.2)
noncomputable def wfScope (kinds : List (Str × NameKind)) (sc : Scope) : Bool :=
  decide (sc.kind = .function) && decide ((sc.names.map (·.1)).Nodup) &&
  sc.names.all fun x => x.2 != .free || kinds.lookup x.1 == some .cell || kinds.lookup x.1 == some .free

theorem lookup_mem {α : Type} : ∀ {l : List (Str × α)} {n : Str} {k : α}, (l.map (·.1)).Nodup → (n, k) ∈ l → l.lookup n = some k
  | (m, kd) :: r, n, k, hn, h => by
    rw [List.map_cons, List.nodup_cons] at hn
    rw [List.lookup_cons]
    rcases List.mem_cons.mp h with e | h
    · cases e; simp
    · have : (n == m) = false := by
        simp only [beq_eq_false_iff_ne]
        intro q
        exact hn.1 (List.mem_map.mpr ⟨_, h, q⟩)
      rw [this]
      exact lookup_mem hn.2 h

theorem inner_lookup (kinds : List (Str × NameKind)) (n : Str) : ∀ (l : List (Str × NameKind)),
    (l.map fun x => (x.1, if (x.2 == .free && kinds.lookup x.1 == some .cell) then NameKind.cell else x.2)).lookup n = (l.lookup n).map fun k => if (k == .free && kinds.lookup n == some .cell) then .cell else k
  | [] => rfl
  | (m, kd) :: r => by
    have ih := inner_lookup kinds n r
    rw [List.map_cons, List.lookup_cons, List.lookup_cons]
    cases hb : n == m with
    | true =>
      have hm : n = m := by simpa using hb
      subst hm
      rfl
    | false => exact ih
theorem relabel_names {kinds : List (Str × NameKind)} {env : Env} (sc : Scope) (hk : env.scope.kind = .function) (hn : env.scope.names = kinds) : (relabel sc env).names = innerKinds kinds sc := by
  unfold relabel innerKinds
  dsimp only
  apply List.map_congr_left
  intro x _
  obtain ⟨n, k⟩ := x
  have : env.kindOf n = kinds.lookup n := by unfold Env.kindOf; rw [hn]
  rw [hk, this]
  cases (k == NameKind.free) <;> cases (kinds.lookup n == some NameKind.cell) <;> rfl

/-- the block's frame -/
theorem wpAny_blockEnv {M : Model} {A : Around} {E : Value → Shared → Prop} {s : Shared} {sc : Scope} {env : Env} {cl : List (Str × Addr)} {Q : Env → Shared → Prop}
    (hQ : Q { scope := sc, locals := s.heap.objs.size, globals := env.globals, cells := cellsFrom (s.heap.objs.size + 1) sc.names cl, qual := env.qual, func := none, code := env.code, frame := env.frame, builtins := env.builtins }
      { s with heap := pushCells (s.heap.push { cls := .type "dict", data := .dict #[] }) sc.names }) :
    wpAny M A (newFunctionEnv sc env.globals cl [] env.qual none .none (some env)) Q E s := by
  simp only [newFunctionEnv, Option.isSome_some, if_true]
  refine wpAny_bind (wpAny_alloc ?_)
  refine wpAny_bind (wpAny_layCells _ (fun name kind cells => by cases hkc : kind == NameKind.cell <;> simp [hkc]) _ _ _ _ ?_)
  rw [show ({ s with heap := s.heap.push { cls := .type "dict", data := .dict #[] } } : Shared).heap.objs.size = s.heap.objs.size + 1 from Heap.size_push ..]
  first
    | exact wpAny_pure hQ
    | exact wpAny_bind (wpAny_pure hQ)
    | exact wpAny_bind (wpAny_pure (wpAny_pure hQ))
end Mine
end

section
namespace Mine
open PySem PySem.W PyProof.Rows

noncomputable abbrev testsOf (ifs : List Expr) (env : Env) : Sem Bool := forIn ifs true fun c r => if r = true then do let ok ← isTrue c env (eval c env); pure (ForInStep.yield ok) else pure (ForInStep.yield r)

/-- what a clause's turn does behind its tests: the last clause -/
noncomputable def actLast (elt : Expr) (acc : Value) (env : Env) : Sem Unit := eval elt env >>= fun y => call (.builtin "list.append") [acc, y] >>= fun _ => pure ()
noncomputable def actMore (e iter : Expr) (depth : Nat) (acc : Value) (env : Env) : Sem Unit := eval iter env >>= fun x => standAt iter.pos >>= fun _ => foldedSetIterable iter env x >>= fun x => holding [x] (pyIter x) >>= fun it =>
  runOwn (.compStart e (depth + 1) it acc env) env >>= fun _ => pure ()

noncomputable def turnOf (e target iter : Expr) (ifs : List Expr) (act : Sem Unit) (depth : Nat) (it acc : Value) (env : Env) : Sem Fin := standAt iter.pos >>= fun _ => pyNext it >>= fun r => match r with
      | none => pure (.done .next)
      | some v => letOwnedTupleGo target it v >>= fun _ => assign target env v >>= fun _ => testsOf ifs env >>= fun ok =>
        if ok = true then act >>= fun _ => again (.compLoop e depth it acc env)
        else again (.compLoop e depth it acc env)

theorem compTurn_last {elt : Expr} {gens : List Comprehension} {sc : Scope} {pos : Pos} {depth : Nat} {it acc : Value} {env : Env} {target iter : Expr} {ifs : List Expr} (hg : gens[depth]? = some ⟨target, iter, ifs, 0⟩) (hg' : gens[depth + 1]? = none) :
    compTurn (.ListComp elt gens sc pos) depth it acc env = turnOf (.ListComp elt gens sc pos) target iter ifs (actLast elt acc env) depth it acc env := by
  unfold compTurn
  simp only [hg, hg']
  rfl
theorem compTurn_more {elt : Expr} {gens : List Comprehension} {sc : Scope} {pos : Pos} {depth : Nat} {it acc : Value} {env : Env} {target iter target' iter' : Expr} {ifs ifs' : List Expr} (hg : gens[depth]? = some ⟨target, iter, ifs, 0⟩)
    (hg' : gens[depth + 1]? = some ⟨target', iter', ifs', 0⟩) :
    compTurn (.ListComp elt gens sc pos) depth it acc env = turnOf (.ListComp elt gens sc pos) target iter ifs (actMore (.ListComp elt gens sc pos) iter' depth acc env) depth it acc env := by
  unfold compTurn
  simp only [hg, hg']
  unfold turnOf actMore
  simp only [bind_assoc, pure_bind]
  rfl

section
variable {prog : Program} {w : World} {A : Around} {E : Value → Shared → Prop} {R : Result → Shared → Prop} {s : Shared}

theorem codeAny_turns {e target iter : Expr} {ifs : List Expr} {act : Sem Unit} {depth : Nat} {it acc : Value} {env : Env} (hq : ∀ it, compTurn e depth it acc env = turnOf e target iter ifs act depth it acc env)
    (hf : (Code.compLoop e depth it acc env).isFrame = false) (hquiet : (Code.compLoop e depth it acc env).quiet = true) (hA : A.under (.compLoop e depth it acc env) = A) (I : Nat → Shared → Prop)
    (turn : ∀ n s, I n s → ∀ E', wpAny (model prog w) A (pyNext it) (fun r s₁ => match r with
      | none => R (.ok .next) s₁
      | some v => wpAny (model prog w) A (letOwnedTupleGo target it v) (fun _ s₂ => wpAny (model prog w) A (assign target env v) (fun _ s₃ =>
          wpAny (model prog w) A (testsOf ifs env) (fun ok s₄ =>
            if ok = true then wpAny (model prog w) A act (fun _ s₅ => ∃ m, m < n ∧ I m s₅) E' s₄
            else ∃ m, m < n ∧ I m s₄) E' s₃) E' s₂) E' s₁) E' s)
    (n : Nat) (h : I n s) : codeAny (model prog w) A (.compLoop e depth it acc env) R s := by
  refine codeAny_loop hquiet I (fun n s hI => ?_) n h
  rw [hA]
  show wpAny _ A (if (Code.compLoop e depth it acc env).isFrame then (compTurn e depth it acc env).onRaise (leaving env) else (compTurn e depth it acc env).onRaise (fun x => do noteFrame x env; theTreesLotGoes x)) _ _ s
  rw [hf]
  simp only [Bool.false_eq_true, if_false]
  refine wpAny_noted ?_
  rw [hq]
  unfold turnOf
  refine wpAny_bind (wpAny_standAt (wpAny_bind (wpAny_mono (turn n s hI _) (fun r s₁ h₁ => ?_) fun _ _ h' => h')))
  cases r with
  | none => exact wpAny_pure h₁
  | some v =>
    refine wpAny_bind (wpAny_mono h₁ (fun _ s₂ h₂ => ?_) fun _ _ h' => h')
    refine wpAny_bind (wpAny_mono h₂ (fun _ s₃ h₃ => wpAny_bind (wpAny_mono h₃ (fun ok s₄ h₄ => ?_) fun _ _ h' => h')) fun _ _ h' => h')
    cases ok with
    | false => exact wpAny_pure ⟨rfl, h₄⟩
    | true => exact wpAny_bind (wpAny_mono h₄ (fun _ s₅ h₅ => wpAny_pure ⟨rfl, h₅⟩) fun _ _ h' => h')

theorem codeAny_start {elt : Expr} {gens : List Comprehension} {sc : Scope} {pos : Pos} {depth : Nat} {it acc : Value} {env : Env} {g : Comprehension} (hg : gens[depth]? = some g) (ha : g.is_async = 0)
    (h0 : codeAny (model prog w) A (.compLoop (.ListComp elt gens sc pos) depth it acc env) R s)
    (h : ∀ E', wpAny (model prog w) A (pyIter it) (fun it' s' => codeAny (model prog w) A (.compLoop (.ListComp elt gens sc pos) depth it' acc env) R s') E' s)
    (hf : (Code.compStart (.ListComp elt gens sc pos) depth it acc env).isFrame = false) (hA : A.under (.compStart (.ListComp elt gens sc pos) depth it acc env) = A) (hquiet : ∀ it', (Code.compLoop (.ListComp elt gens sc pos) depth it' acc env).quiet = true) :
    codeAny (model prog w) A (.compStart (.ListComp elt gens sc pos) depth it acc env) R s := by
  refine codeAny_of_tree ?_
  rw [hA]
  show wpAny _ A (if (Code.compStart (.ListComp elt gens sc pos) depth it acc env).isFrame then (compStart (.ListComp elt gens sc pos) depth it acc env).onRaise (leaving env) else (compStart (.ListComp elt gens sc pos) depth it acc env).onRaise (fun x => do noteFrame x env; standAt theWindowsPlace)) _ _ s
  rw [hf]
  simp only [Bool.false_eq_true, if_false]
  refine wpAny_notedAt ?_
  unfold compStart
  have hc : (clausesOf (.ListComp elt gens sc pos))[depth]? = some g := hg
  simp only [hc, Option.elim, ha]
  refine wpAny_bind (wpAny_askSetting (wpAny_ite ?_))
  split
  · exact wpAny_pure ⟨hquiet _, h0⟩
  · exact wpAny_bind (wpAny_rule (wpAny_bind (wpAny_standAt (wpAny_bind (wpAny_mono (h _) (fun it' s' h' => wpAny_pure ⟨hquiet _, h'⟩) fun _ _ x => x)))))
end
end Mine
end

section
namespace Mine
open PySem PySem.W PyProof.Rows

section
variable {prog : Program} {w : World} {A : Around} {E : Value → Shared → Prop} {f f' : TokMap} {Av : Addr → Prop} {s : Shared}
  {tab : Nat → Str} {h₁ : Heap} {env : Env} {kinds : List (Str × NameKind)} {ρ ρ' : Vw}

theorem Cx.view (cx : Cx tab h₁ A env kinds ρ f Av s) (h : ∀ i d, ρ' i = some d → ρ i = some d) : Cx tab h₁ A env kinds ρ' f Av s :=
  ⟨cx.si, cx.ok, cx.lo, cx.ce, cx.av, cx.wd, fun i d e => cx.rel i d (h i d e)⟩

/-- what W names is an iterator's, or a list that is being filled -/
noncomputable def WGood (h₁ : Heap) (Av W : Addr → Prop) (h h' : Heap) : Prop := ∀ b, W b → h₁.get? b = none ∧
  (((∃ o vs, h.get? b = some o ∧ o.data = .fields vs) ∧ ¬ Av b) ∨
   (Av b ∧ (∃ o xs n, h.get? b = some o ∧ o.cls = .type "list" ∧ o.data = .seq xs n) ∧ ∃ o' xs n, h'.get? b = some o' ∧ o'.cls = .type "list" ∧ o'.data = .seq xs n))

theorem WGood.clear {W : Addr → Prop} {h h' : Heap} (x : WGood h₁ Av W h h') : Clear W Av h := fun b o xs n hb e d => by
  rcases (x b hb).2 with ⟨⟨o', vs, e', d'⟩, _⟩ | ⟨ha, ⟨o', xs', n', e', c', d'⟩, _⟩
  · rw [e] at e'; cases e'; rw [d] at d'; cases d'
  · rw [e] at e'; cases e'; exact ⟨c', ha⟩
theorem WGood.notDict {W : Addr → Prop} {h h' : Heap} (x : WGood h₁ Av W h h') {a : Addr} {m : Str → Option Value} (hn : h.Ns a m) : ¬ W a := fun q => by
  obtain ⟨o, es, ep, ho, hd, _⟩ := hn
  rcases (x a q).2 with ⟨⟨o', vs, e', d'⟩, _⟩ | ⟨ha, ⟨o', xs', n', e', c', d'⟩, _⟩
  · rw [ho] at e'; cases e'; rw [hd] at d'; cases d'
  · rw [ho] at e'; cases e'; rw [hd] at d'; cases d'
theorem WGood.notCell {W : Addr → Prop} {h h' : Heap} (x : WGood h₁ Av W h h') {a : Addr} {v : Option Value} (hn : h.IsCell a v) : ¬ W a := fun q => by
  obtain ⟨o, ho, hd⟩ := hn
  rcases (x a q).2 with ⟨⟨o', vs, e', d'⟩, _⟩ | ⟨ha, ⟨o', xs', n', e', c', d'⟩, _⟩
  · rw [ho] at e'; cases e'; rw [hd] at d'; cases d'
  · rw [ho] at e'; cases e'; rw [hd] at d'; cases d'

theorem SI.keepG {W : Addr → Prop} {h h' : Heap} (x : SI h₁ A h) (k : KeepX A W h h') (g : WGood h₁ Av W h h') : SI h₁ A h' := by
  obtain ⟨fr, hf, hF⟩ := x.fr
  refine ⟨fun b o e => ?_, fr, hf, ?_⟩
  · have nW : ¬ W b := fun q => by rw [(g b q).1] at e; cases e
    obtain ⟨o', e', q, _⟩ := k b o nW (x.base b o e)
    rw [q (x.notFS e)] at e'; exact e'
  · clear hf
    induction fr with
    | nil => trivial
    | cons env r ih =>
      obtain ⟨hk, ⟨L, o, hf, hn', ho, hd⟩, hr⟩ := hF
      refine ⟨hk, ?_, ih hr⟩
      by_cases q : W L
      · rcases (g L q).2 with ⟨⟨o', vs, e', d'⟩, _⟩ | ⟨_, _, o', xs, n, e', _, d'⟩
        · rw [ho] at e'; cases e'; exact absurd d' (hd vs)
        · exact ⟨L, o', hf, hn', e', fun vs z => by rw [d'] at z; cases z⟩
      · obtain ⟨o', e', _, d'⟩ := k.data q ho
        exact ⟨L, o', hf, hn', e', fun vs => by rw [d']; exact hd vs⟩

theorem EnvOk.keepG {W : Addr → Prop} {h h' : Heap} (x : EnvOk env kinds h) (k : KeepX A W h h') (g : WGood h₁ Av W h h') : EnvOk env kinds h' :=
  ⟨x.kind, x.names, x.globals, x.builtins, let ⟨m, a⟩ := x.ns; ⟨m, Heap.Ns.keepX a k (g.notDict a)⟩, fun n e => let ⟨c, v, a, b⟩ := x.cells n e; ⟨c, v, a, Heap.IsCell.keepX b k (g.notCell b)⟩, x.apart⟩
theorem VarAt.keepG {W : Addr → Prop} {h h' : Heap} {x : Str} {v : Value} (q : VarAt env h x v) (k : KeepX A W h h') (g : WGood h₁ Av W h h') : VarAt env h' x v :=
  q.imp (fun ⟨a, m, b, c⟩ => ⟨a, m, Heap.Ns.keepX b k (g.notDict b), c⟩) fun ⟨a, c, b, d⟩ => ⟨a, c, b, Heap.IsCell.keepX d k (g.notCell d)⟩

theorem Cx.keepG {W : Addr → Prop} {h' : Heap} {tk : Nat} (cx : Cx tab h₁ A env kinds ρ f Av s) (k : KeepX A W s.heap h') (g : WGood h₁ Av W s.heap h') (e : Ext f f') (wd : Wd f' tk) :
    Cx tab h₁ A env kinds ρ f' Av { s with heap := h', toks := tk } :=
  ⟨cx.si.keepG k g, cx.ok.keepG k g, cx.lo, cx.ce, fun a ha => by
      obtain ⟨o, eo⟩ := cx.av a ha
      by_cases q : W a
      · rcases (g a q).2 with ⟨_, n⟩ | ⟨_, _, o', _, _, e', _⟩
        · exact absurd ha n
        · exact ⟨o', e'⟩
      · obtain ⟨o', e', _⟩ := k a o q eo; exact ⟨o', e'⟩,
    wd, fun i d hi => let ⟨v, a, b⟩ := cx.rel i d hi; ⟨v, a.keepG k g, Rd.keepX k g.clear e d b⟩⟩

/-! targets -/
noncomputable def Tgt.is : Tgt → List Nat
  | .one i _ => [i]
  | .tup is _ => is.map (·.1)
noncomputable def WT (tab : Nat → Str) (env : Env) (is : List Nat) : Addr → Prop := fun b => ∃ i ∈ is, WS env (tab i) b
noncomputable def storable (kinds : List (Str × NameKind)) (x : Str) : Bool := kinds.lookup x == some .local || kinds.lookup x == some .cell
theorem storable_or {x : Str} (h : storable kinds x = true) : kinds.lookup x = some .local ∨ kinds.lookup x = some .cell := by
  unfold storable at h
  rw [Bool.or_eq_true] at h
  exact h.imp (fun q => by simpa using q) fun q => by simpa using q

/-- one name is stored -/
theorem bind_sound (T : TabOk tab) (cx : Cx tab h₁ A env kinds ρ f Av s) {i : Nat} {v : Value} {d : D} (hr : Rd f Av s.heap v d) (hk : storable kinds (tab i) = true) {Q : Unit → Shared → Prop}
    (hQ : ∀ h' tk, s.toks ≤ tk → KeepX A (WS env (tab i)) s.heap h' → Clear (WS env (tab i)) Av s.heap → Cx tab h₁ A env kinds (upd ρ i d) f Av { s with heap := h', toks := tk } → Q () { s with heap := h', toks := tk }) :
    wpAny (model prog w) A (storeName env (tab i) v) Q E s :=
  store_sound cx.ok (storable_or hk) fun h' tk ht k hw ok hv ho => hQ h' tk ht k (ws_clear cx.ok _) (cx_store T cx hr ht k hw ok hv ho)

theorem draw_list {it l : Addr} {items : Array Value} (hne : l ≠ it) : ∀ (n i : Nat) (s : Shared) (Q : List Value → Shared → Prop), s.heap.IsListIter it l i → s.heap.IsList l items → i + n ≤ items.size →
    (∀ h', h'.IsListIter it l (i + n) → Heap.SameBut it s.heap h' → Q ((items.toList.drop i).take n) { s with heap := h' }) → wpAny (model prog w) A (draw (.ref it) n) Q E s
  | 0, i, s, Q, hit, _, _, hQ => by
    show wpAny _ _ (pure []) Q E s
    exact wpAny_pure (by simpa using hQ s.heap hit (Heap.SameBut.refl ..))
  | n + 1, i, s, Q, hit, ht, hle, hQ => by
    have hlt : i < items.size := by omega
    show wpAny _ _ (pyNext (.ref it) >>= _) Q E s
    refine wpAny_bind (wpAny_pyNext_list_item hit ht (x := items[i]) (by simp [hlt]) fun h₁ hit₁ hs₁ => ?_)
    refine wpAny_bind (wpAny_holding (draw_list hne n (i + 1) _ _ hit₁ (ht.extBut hs₁.extBut hne) (by omega) fun h₂ hit₂ hs₂ => wpAny_pure ?_))
    have hd : items.toList.drop i = items[i] :: items.toList.drop (i + 1) := by simp [List.drop_eq_getElem_cons, hlt]
    have := hQ h₂ (by rw [show i + (n + 1) = i + 1 + n by omega]; exact hit₂) (hs₁.trans hs₂)
    rw [hd, List.take_succ_cons] at this
    exact this

theorem unpackItems_list {l : Addr} {items : Array Value} {Q : List Value → Shared → Prop} (hh : A.handled = none) (hl : s.heap.IsList l items)
    (hQ : ∀ h', Heap.ExtBut s.heap.objs.size s.heap h' → Q items.toList { s with heap := h' }) : wpAny (model prog w) A (unpackItems (.ref l) items.size none) Q E s := by
  have hlt : l ≠ s.heap.objs.size := by obtain ⟨o, ho, _⟩ := hl; exact Nat.ne_of_lt (Heap.lt_size ho)
  unfold unpackItems
  refine wpAny_bind ?_
  unfold notIterableAtAll
  refine wpAny_bind (wpAny_specialOf hl.typeIs slot_list_iter.lookup ?_)
  refine wpAny_pure ?_
  simp only [Bool.false_eq_true, if_false]
  refine wpAny_bind (wpAny_holding (wpAny_pyIter_list hl ?_))
  refine wpAny_bind (wpAny_holding (draw_list hlt items.size 0 _ _ ⟨_, Heap.get?_push_size _ rfl, rfl, rfl⟩ (hl.push _) (by omega) fun h₁ hit₁ hs₁ => ?_))
  have hall : List.take items.size (List.drop 0 items.toList) = items.toList := by
    rw [List.drop_zero]; exact List.take_of_length_le (by simp)
  rw [hall]
  have hlen : ¬ items.toList.length < items.size := by simp
  rw [if_neg hlen]
  refine wpAny_bind (wpAny_holding (wpAny_pyNext_list_end hh (by simpa using hit₁) ((hl.push _).extBut hs₁.extBut hlt) (by simp) fun h₂ he₂ => ?_))
  simp only [Option.isSome_none, Bool.false_eq_true, if_false]
  exact wpAny_pure (hQ h₂ fun b o hb e => he₂ b o hb (hs₁.extBut b o hb (Heap.get?_push_of_some _ e)))

theorem WT.mono {is js : List Nat} (h : ∀ i ∈ is, i ∈ js) : ∀ b, WT tab env is b → WT tab env js b := fun _ ⟨i, hi, q⟩ => ⟨i, h i hi, q⟩

theorem ws_clearT {h : Heap} (ok : EnvOk env kinds h) (is : List Nat) : Clear (WT tab env is) Av h := fun b o xs n ⟨i, _, q⟩ e d => ws_clear ok (tab i) b o xs n q e d

theorem assignAll_sound (T : TabOk tab) : ∀ (is : List (Nat × Pos)) (ds : List D) (vs : List Value) (ρ ρ' : Vw) (s : Shared) (Q : Unit → Shared → Prop), bindAll is ds ρ = some ρ' → Cx tab h₁ A env kinds ρ f Av s →
    RdAll f Av s.heap vs ds → (∀ x ∈ is, storable kinds (tab x.1) = true) →
    (∀ h' tk, s.toks ≤ tk → KeepX A (WT tab env (is.map (·.1))) s.heap h' → Cx tab h₁ A env kinds ρ' f Av { s with heap := h', toks := tk } → Q () { s with heap := h', toks := tk }) →
    wpAny (model prog w) A (assignInOrder (is.map fun x => assign (.Name (tab x.1) x.2) env) vs) Q E s
  | [], [], vs, ρ, ρ', s, Q, hb, cx, r, _, hQ => by
    cases r
    cases hb
    exact wpAny_pure (hQ s.heap s.toks (Nat.le_refl _) .refl cx)
  | x :: is, d :: ds, _, ρ, ρ', s, Q, hb, cx, ⟨v, ws, p, r1, r2⟩, hst, hQ => by
    subst p
    refine wpAny_assignInOrder_more (wpAny_assign_Name (bind_sound T cx r1 (hst x (List.mem_cons_self ..)) fun h' tk ht k cl cx' => ?_))
    refine assignAll_sound T is ds ws _ ρ' _ Q hb cx' (RdAll.keepX k cl (.refl f) ds r2) (fun y hy => hst y (List.mem_cons_of_mem _ hy)) fun h'' tk' ht' k' cx'' => ?_
    have kA : KeepX A (WT tab env ((x :: is).map (·.1))) s.heap h' := k.weaken fun b o e q => ⟨x.1, by simp, q⟩
    have kB : KeepX A (WT tab env ((x :: is).map (·.1))) h' h'' := KeepX.weaken k' fun b o e q => WT.mono (fun i hi => by rw [List.map_cons]; exact List.mem_cons_of_mem _ hi) b q
    exact hQ h'' tk' (Nat.le_trans ht ht') (kA.trans kB) cx''
  | [], _ :: _, _, _, _, _, _, hb, _, _, _, _ => by cases hb
  | _ :: _, [], _, _, _, _, _, hb, _, _, _, _ => by cases hb

theorem assignEach_names (is : List (Nat × Pos)) : assignEach (is.map fun x => .Name (tab x.1) x.2) env = is.map fun x => (false, assign (.Name (tab x.1) x.2) env) := by
  induction is with
  | nil => rfl
  | cons x is ih =>
    show (false, assign (.Name (tab x.1) x.2) env) :: assignEach (is.map fun x => .Name (tab x.1) x.2) env = _
    rw [ih]; rfl
theorem bindAll_length : ∀ {is : List (Nat × Pos)} {ds : List D} {ρ ρ' : Vw}, bindAll is ds ρ = some ρ' → is.length = ds.length
  | [], [], _, _, _ => rfl
  | x :: is, d :: ds, ρ, _, h => by simp only [List.length_cons]; rw [bindAll_length (is := is) (ds := ds) (ρ := upd ρ x.1 d) h]
  | [], _ :: _, _, _, h => by cases h
  | _ :: _, [], _, _, h => by cases h

/-- a target takes a datum -/
theorem assign_sound (T : TabOk tab) (hh : A.handled = none) (cx : Cx tab h₁ A env kinds ρ f Av s) {t : Tgt} {v : Value} {d : D} (hb : bindT t d ρ = some ρ') (hr : Rd f Av s.heap v d)
    (hst : ∀ i ∈ t.is, storable kinds (tab i) = true) {Q : Unit → Shared → Prop}
    (hQ : ∀ h' tk, s.toks ≤ tk → KeepX A (WT tab env t.is) s.heap h' → Cx tab h₁ A env kinds ρ' f Av { s with heap := h', toks := tk } → Q () { s with heap := h', toks := tk }) :
    wpAny (model prog w) A (assign (t.toE tab) env v) Q E s := by
  cases t with
  | one i p =>
    cases hb
    refine wpAny_assign_Name (bind_sound T cx hr (hst i (by simp [Tgt.is])) fun h' tk ht k cl cx' => hQ h' tk ht (k.weaken fun b o e q => ⟨i, by simp [Tgt.is], q⟩) cx')
  | tup is p =>
    have fin : ∀ (ds : List D) (its : Array Value), bindAll is ds ρ = some ρ' → RdAll f Av s.heap its.toList ds → ∀ h₀, Heap.ExtBut s.heap.objs.size s.heap h₀ →
        wpAny (model prog w) A (assignInOrder ((assignEach (is.map fun x => .Name (tab x.1) x.2) env).map (·.2)) its.toList) Q E { s with heap := h₀ } := by
      intro ds its hb r h₀ he
      have k0 : KeepS A s { s with heap := h₀, toks := s.toks } := .of fun b o e => he b o (Nat.ne_of_lt (Heap.lt_size e)) e
      rw [assignEach_names, List.map_map]
      refine assignAll_sound T is ds its.toList ρ ρ' _ Q hb (cx.keep k0 (.refl f) cx.wd) (r.keep k0.keep (.refl f)) (fun x hx => hst x.1 (List.mem_map.mpr ⟨x, hx, rfl⟩)) fun h' tk ht k cx' => ?_
      exact hQ h' tk ht ((KeepX.of_keep k0.keep).trans k) cx'
    have hlen : ∀ (ds : List D) (its : Array Value), bindAll is ds ρ = some ρ' → RdAll f Av s.heap its.toList ds → (assignEach (is.map fun x => .Name (tab x.1) x.2) env).length = its.size := by
      intro ds its hb r
      rw [assignEach_names, List.length_map, bindAll_length hb]
      have := r.length
      rw [Array.length_toList] at this
      exact this.symm
    have hno : (assignEach (is.map fun x => .Name (tab x.1) x.2) env).findIdx? (·.1) = none := by
      rw [assignEach_names, List.findIdx?_eq_none_iff]
      intro x hx
      obtain ⟨y, _, rfl⟩ := List.mem_map.mp hx
      rfl
    cases d with
    | tuple ds =>
      obtain ⟨a, its, rfl, ht, r⟩ := hr
      exact wpAny_assign_Tuple hh (items := its) ht (hlen ds its hb r) hno (fin ds its hb r)
    | list ds =>
      obtain ⟨a, its, rfl, _, hl, r⟩ := hr
      show wpAny _ A (assign (.Tuple _ 0 p) env (.ref a)) Q E s
      rw [arm_assign_Tuple]
      refine wpAny_bind (wpAny_standAt ?_)
      unfold unpack
      rw [hlen ds its hb r, hno]
      exact wpAny_bind (wpAny_holding (unpackItems_list hh hl (fin ds its hb r)))
    | _ => cases hb
end
end Mine
end

section
namespace Mine
open PySem PySem.W PyProof.Rows

theorem plKeep {A : Around} {W : Addr → Prop} {h h' : Heap} {a : Addr} {its : Array Value} (x : PlainL h a its) (k : KeepX A W h h') (n : ¬ W a) : PlainL h' a its := by
  obtain ⟨o, m, ho, hc, hdn, hd⟩ := x
  obtain ⟨o', ho', _, sm⟩ := k a o n ho
  exact ⟨o', m, ho', sm.1.trans hc, sm.2.1.trans hdn, sm.2.2.trans hd⟩


theorem bindAll_other : ∀ {is : List (Nat × Pos)} {ds : List D} {ρ ρ' : Vw}, bindAll is ds ρ = some ρ' → ∀ i, i ∉ is.map (·.1) → ρ' i = ρ i
  | [], [], _, _, h, _, _ => by cases h; rfl
  | x :: is, d :: ds, ρ, ρ', h, i, hi => by
    rw [List.map_cons, List.mem_cons, not_or] at hi
    rw [bindAll_other (is := is) (ds := ds) (ρ := upd ρ x.1 d) h i hi.2]
    unfold upd; rw [if_neg hi.1]
  | [], _ :: _, _, _, h, _, _ => by cases h
  | _ :: _, [], _, _, h, _, _ => by cases h
theorem bindT_other {t : Tgt} {d : D} {ρ ρ' : Vw} (h : bindT t d ρ = some ρ') (i : Nat) (hi : i ∉ t.is) : ρ' i = ρ i := by
  cases t with
  | one j p =>
    cases h
    have : i ≠ j := by simpa [Tgt.is] using hi
    unfold upd; rw [if_neg this]
  | tup is p =>
    cases d with
    | tuple ds => exact bindAll_other (show bindAll is ds ρ = some ρ' from h) i hi
    | list ds => exact bindAll_other (show bindAll is ds ρ = some ρ' from h) i hi
    | _ => cases h

noncomputable def ownName (sc : Scope) (x : Str) : Bool := sc.names.lookup x == some .local || sc.names.lookup x == some .cell
/-- what a comprehension's run turns: its own names, and the list that it fills -/
noncomputable def WB (sc : Scope) (cenv : Env) (dst : Addr) : Addr → Prop := fun b => b = dst ∨ ∃ x, ownName sc x = true ∧ WS cenv x b

section
variable {prog : Program} {w : World} {A : Around} {f : TokMap} {Av : Addr → Prop} {s : Shared}
  {tab : Nat → Str} {h₁ : Heap} {env : Env} {kinds : List (Str × NameKind)} {ρ : Vw} {sc : Scope} {dst : Addr}

theorem wb_clear {h : Heap} {its : Array Value} (ok : EnvOk env kinds h) (hl : h.IsList dst its) (hAv : Av dst) : Clear (WB sc env dst) Av h := fun b o xs n hb e d => by
  rcases hb with rfl | ⟨x, _, q⟩
  · obtain ⟨o', e', c', _⟩ := hl
    rw [e] at e'; cases e'
    exact ⟨c', hAv⟩
  · exact ws_clear ok x b o xs n q e d
theorem ws_notFields {h : Heap} (ok : EnvOk env kinds h) {x : Str} {b : Addr} {o : Obj} {vs : Array Value} (hb : WS env x b) (e : h.get? b = some o) : o.data ≠ .fields vs := fun d => by
  rcases hb with ⟨_, rfl⟩ | ⟨hk, hc⟩
  · obtain ⟨m, o', es, ep, ho, hd, _⟩ := ok.ns
    rw [ho] at e; cases e
    rw [hd] at d; cases d
  · obtain ⟨c, v, hc', o', ho, hd⟩ := ok.cells x (.inl hk)
    rw [hc] at hc'; cases hc'
    rw [ho] at e; cases e
    rw [hd] at d; cases d
theorem wb_notFields {h : Heap} {its : Array Value} (ok : EnvOk env kinds h) (hl : h.IsList dst its) {b : Addr} {o : Obj} {vs : Array Value} (hb : WB sc env dst b) (e : h.get? b = some o) : o.data ≠ .fields vs := by
  rcases hb with rfl | ⟨x, _, q⟩
  · obtain ⟨o', e', _, n, d'⟩ := hl
    rw [e] at e'; cases e'
    rw [d']; simp
  · exact ws_notFields ok q e
theorem notFS_fields {h : Heap} (si : SI h₁ A h) {b : Addr} {o : Obj} {vs : Array Value} (e : h.get? b = some o) (d : o.data = .fields vs) : ¬ FS A b := by
  rintro ⟨fr, env, hf, hm, hb⟩
  obtain ⟨fr', hf', hF⟩ := si.fr
  rw [hf] at hf'; cases hf'
  obtain ⟨_, o', e', d'⟩ := funFrames_mem hF env hm b hb
  rw [e] at e'; cases e'
  exact d' _ d
theorem ws_list {h : Heap} {its : Array Value} (ok : EnvOk env kinds h) (hl : h.IsList dst its) {x : Str} : ¬ WS env x dst := fun hb => by
  obtain ⟨o, e, c, n, d⟩ := hl
  rcases hb with ⟨_, q⟩ | ⟨hk, hc⟩
  · obtain ⟨m, o', es, ep, ho, hd, _⟩ := ok.ns
    rw [q] at e
    rw [ho] at e; cases e
    rw [hd] at d; cases d
  · obtain ⟨c', v, hc', o', ho, hd⟩ := ok.cells x (.inl hk)
    rw [hc] at hc'; cases hc'
    rw [ho] at e; cases e
    rw [hd] at d; cases d

/-- what a turn does behind its tests: it adds bs to the list that is filled -/
noncomputable def ActOk (prog : Program) (w : World) (A : Around) (tab : Nat → Str) (h₁ : Heap) (cenv : Env) (kinds : List (Str × NameKind)) (Av W : Addr → Prop) (dst : Addr) (act : Sem Unit) (ρ : Vw) (bs : List D) : Prop :=
  ∀ (s : Shared) (f : TokMap) (its : Array Value) (es : List D), Cx tab h₁ A cenv kinds ρ f Av s → PlainL s.heap dst its → RdAll f Av s.heap its.toList es → (es ++ bs).length ≤ lim →
    ∀ (E : Value → Shared → Prop) (Q : Unit → Shared → Prop),
      (∀ h' tk f' its', s.toks ≤ tk → Ext f f' → KeepX A W s.heap h' → Cx tab h₁ A cenv kinds ρ f' Av { s with heap := h', toks := tk } → PlainL h' dst its' → RdAll f' Av h' its'.toList (es ++ bs) → Q () { s with heap := h', toks := tk }) →
      wpAny (model prog w) A act Q E s

theorem loop_sound (T : TabOk tab) (hh : A.handled = none) {e iter : Expr} {ifs : List Expr} {act : Sem Unit} {depth : Nat} {t : Tgt} {I : Addr} {fp : List Addr} {St : Nat → Heap → TokMap → Prop}
    (hq : ∀ it, compTurn e depth it (.ref dst) env = turnOf e (t.toE tab) iter ifs act depth it (.ref dst) env)
    (hf : (Code.compLoop e depth (.ref I) (.ref dst) env).isFrame = false) (hquiet : (Code.compLoop e depth (.ref I) (.ref dst) env).quiet = true) (hA : A.under (.compLoop e depth (.ref I) (.ref dst) env) = A)
    (hown : ∀ i ∈ t.is, ownName sc (tab i) = true ∧ storable kinds (tab i) = true) (hAv : Av dst) (hfp : ∀ b ∈ fp, h₁.get? b = none ∧ ¬ Av b)
    (evI : Vw → Option Bool)
    (tests : ∀ ρ' ok (s : Shared) f (E : Value → Shared → Prop) (Q : Bool → Shared → Prop), evI ρ' = some ok → Cx tab h₁ A env kinds ρ' f Av s →
      (∀ h' tk f', s.toks ≤ tk → Ext f f' → Wd f' tk → Keep A s.heap h' → Q ok { s with heap := h', toks := tk }) → wpAny (model prog w) A (testsOf ifs env) Q E s)
    (F : Vw → Option (List D)) (Dis : Nat → Prop) (hact : ∀ ρ' bs, F ρ' = some bs → (∀ i d, ρ' i = some d → ¬ Dis i) → ActOk prog w A tab h₁ env kinds Av (WB sc env dst) dst act ρ' bs)
    (hρ : ∀ i d, ρ i = some d → i ∉ t.is) (hdis : ∀ i d, ρ i = some d → ¬ Dis i) (hdis' : ∀ i ∈ t.is, ¬ Dis i)
    {ds bs : List D} (hc : collectM (fun d => (bindT t d ρ).bind fun ρ' => (evI ρ').bind fun ok => if ok then F ρ' else some []) ds = some bs)
    (itr : Itr prog w A (t.toE tab) Av I fp ds St)
    {its : Array Value} {es : List D} (st : St 0 s.heap f) (cx : Cx tab h₁ A env kinds ρ f Av s) (hl : PlainL s.heap dst its) (r : RdAll f Av s.heap its.toList es) (hsz : (es ++ bs).length ≤ lim)
    {R : Result → Shared → Prop}
    (hR : ∀ h' tk f' its', s.toks ≤ tk → Ext f f' → KeepX A (fun b => WB sc env dst b ∨ b ∈ fp) s.heap h' → Cx tab h₁ A env kinds ρ f' Av { s with heap := h', toks := tk } → PlainL h' dst its' → RdAll f' Av h' its'.toList (es ++ bs) → R (.ok .next) { s with heap := h', toks := tk }) :
    codeAny (model prog w) A (.compLoop e depth (.ref I) (.ref dst) env) R s := by
  obtain ⟨Inv, hInv⟩ : ∃ Inv : Nat → Shared → Prop, Inv = fun k s' => Ex7 fun (i : Nat) (h' : Heap) (tk : Nat) (f' : TokMap) (its' : Array Value) (don rest : List D) => And12 (s' = { s with heap := h', toks := tk }) (k = ds.length - i) (i ≤ ds.length) (s.toks ≤ tk) (Ext f f') (St i h' f') (Cx tab h₁ A env kinds ρ f' Av s') (PlainL h' dst its') (RdAll f' Av h' its'.toList (es ++ don)) (bs = don ++ rest) (collectM (fun d => (bindT t d ρ).bind fun ρ' => (evI ρ').bind fun ok => if ok then F ρ' else some []) (ds.drop i) = some rest) (KeepX A (fun b => WB sc env dst b ∨ b ∈ fp) s.heap h') := ⟨_, rfl⟩
  refine codeAny_turns hq hf hquiet hA Inv ?_ ds.length (by rw [hInv]; exact
    ⟨0, s.heap, s.toks, f, its, [], bs, rfl, rfl, Nat.zero_le _, Nat.le_refl _, .refl f, st, cx, hl, by simpa using r, rfl, by simpa using hc, .refl⟩)
  intro k s' hinv E'
  rw [hInv] at hinv
  obtain ⟨i, H, tk, f', its', don, rest, rfl, rfl, hi, htk, hext, hst, cx', hl', r', rfl, hrest, hk⟩ := hinv
  have fpFS : ∀ b ∈ fp, ¬ FS A b := fun b hb => by
    obtain ⟨o, vs, e1, d1⟩ := itr.objs _ _ _ hst b hb
    exact notFS_fields cx'.si e1 d1
  have fpWB : ∀ b ∈ fp, ¬ WB sc env dst b := fun b hb q => by
    obtain ⟨o, vs, e1, d1⟩ := itr.objs _ _ _ hst b hb
    exact wb_notFields cx'.ok hl'.isList q e1 d1
  have clB : Clear (· ∈ fp) Av H := clear_fp (itr.objs _ _ _ hst)
  have dstfp : dst ∉ fp := fun q => fpWB dst q (.inl rfl)
  have wtwb : ∀ b, WT tab env t.is b → WB sc env dst b := fun b ⟨j, hj, q⟩ => .inr ⟨tab j, (hown j hj).1, q⟩
  by_cases hlt : i < ds.length
  · have hd : ds[i]? = some ds[i] := List.getElem?_eq_getElem hlt
    have hdrop : ds.drop i = ds[i] :: ds.drop (i + 1) := List.drop_eq_getElem_cons hlt
    generalize ds[i] = d at hd hdrop
    rw [hdrop] at hrest
    simp only [collectM] at hrest
    split at hrest
    · rename_i a ha
      split at hrest
      · rename_i b hb
        cases hrest
        obtain ⟨ρ', hb1, hb2⟩ := Option.bind_eq_some_iff.mp ha
        obtain ⟨ok, hok, hb3⟩ := Option.bind_eq_some_iff.mp hb2
        have back : ∀ j e, ρ j = some e → ρ' j = some e := fun j e hj => by rw [bindT_other hb1 j (hρ j e hj)]; exact hj
        refine wpAny_mono (itr.item i d _ f' (fun v s₂ => wpAny (model prog w) A (assign (t.toE tab) env v) (fun _ s₃ => wpAny (model prog w) A (testsOf ifs env) (fun ok s₄ =>
            if ok = true then wpAny (model prog w) A act (fun _ s₅ => ∃ m, m < ds.length - i ∧ Inv m s₅) E' s₄ else ∃ m, m < ds.length - i ∧ Inv m s₄) E' s₃) E' s₂) E' hd hst cx'.wd fpFS ?_) (fun r s₁ h₁ => ?_) fun _ _ q => q
        · intro v h₂ tk₂ f₂ e₂ w₂ t₂ rv hst₂ kB
          have t₂' : tk ≤ tk₂ := t₂
          have gB : WGood h₁ Av (· ∈ fp) H h₂ := fun b hb => by
            obtain ⟨o, vs, e1, d1⟩ := itr.objs _ _ _ hst b hb
            exact ⟨(hfp b hb).1, .inl ⟨⟨o, vs, e1, d1⟩, (hfp b hb).2⟩⟩
          have cx₂ : Cx tab h₁ A env kinds ρ f₂ Av { s with heap := h₂, toks := tk₂ } := Cx.keepG (s := { s with heap := H, toks := tk }) cx' kB.keepX gB e₂ w₂
          have hl₂ : PlainL h₂ dst its' := plKeep hl' (kB.keepX (A := A)) dstfp
          have r₂ : RdAll f₂ Av h₂ its'.toList (es ++ don) := RdAll.keepX (kB.keepX (A := A)) clB e₂ _ r'
          refine assign_sound (s := { s with heap := h₂, toks := tk₂ }) T hh cx₂ hb1 rv (fun j hj => (hown j hj).2) fun h₃ tk₃ t₃ k₃ cx₃ => ?_
          have t₃' : tk₂ ≤ tk₃ := t₃
          have cl₃ : Clear (WT tab env t.is) Av h₂ := ws_clearT cx₂.ok _
          have hst₃ : St (i + 1) h₃ f₂ := itr.frame _ _ _ _ _ _ hst₂ (.refl _) k₃ cl₃ fun b hb => ⟨fun q => fpWB b hb (wtwb b q), fpFS b hb⟩
          have hl₃ : PlainL h₃ dst its' := plKeep hl₂ k₃ fun ⟨j, _, q⟩ => ws_list cx₂.ok hl₂.isList q
          have r₃ : RdAll f₂ Av h₃ its'.toList (es ++ don) := RdAll.keepX k₃ cl₃ (.refl _) _ r₂
          refine tests ρ' ok { s with heap := h₃, toks := tk₃ } f₂ E' _ hok cx₃ fun h₄ tk₄ f₄ t₄ e₄ w₄ k₄ => ?_
          have t₄' : tk₃ ≤ tk₄ := t₄
          have k₄' : Keep A h₃ h₄ := k₄
          have cx₄ : Cx tab h₁ A env kinds ρ' f₄ Av { s with heap := h₄, toks := tk₄ } := Cx.keep (s := { s with heap := h₃, toks := tk₃ }) cx₃ ⟨h₄, tk₄, rfl, k₄⟩ e₄ w₄
          have hst₄ : St (i + 1) h₄ f₄ := itr.frame _ _ _ _ _ _ hst₃ e₄ k₄' clear_noW fun b hb => ⟨fun q => q.elim, fpFS b hb⟩
          have hl₄ : PlainL h₄ dst its' := plKeep hl₃ k₄' fun q => q.elim
          have r₄ : RdAll f₄ Av h₄ its'.toList (es ++ don) := r₃.keep k₄' e₄
          have kk : KeepX A (fun b => WB sc env dst b ∨ b ∈ fp) s.heap h₄ := ((hk.trans (KeepX.weaken kB.keepX fun b o e q => .inr q)).trans (KeepX.weaken k₃ fun b o e q => .inl (wtwb b q))).trans (.of_keep k₄')
          cases ok with
          | false =>
            simp only [Bool.false_eq_true, if_false, Option.some.injEq] at hb3
            subst hb3
            simp only [Bool.false_eq_true, if_false]
            refine ⟨ds.length - (i + 1), by omega, ?_⟩
            rw [hInv]
            exact ⟨i + 1, h₄, tk₄, f₄, its', don, b, rfl, rfl, hlt, by omega, (hext.trans e₂).trans e₄, hst₄, cx₄.view back, hl₄, r₄, by simp, hb, kk⟩
          | true =>
            simp only [if_true] at hb3
            simp only [if_true]
            have dis₄ : ∀ j e, ρ' j = some e → ¬ Dis j := fun j e hj => by
              by_cases q : j ∈ t.is
              · exact hdis' j q
              · rw [bindT_other hb1 j q] at hj; exact hdis j e hj
            have sz : (es ++ don ++ a).length ≤ lim := by
              simp only [List.length_append] at hsz ⊢
              omega
            refine hact ρ' a hb3 dis₄ { s with heap := h₄, toks := tk₄ } f₄ its' (es ++ don) cx₄ hl₄ r₄ sz E' _ fun h₅ tk₅ f₅ its₅ t₅ e₅ k₅ cx₅ hl₅ r₅ => ?_
            have t₅' : tk₄ ≤ tk₅ := t₅
            have hst₅ : St (i + 1) h₅ f₅ := itr.frame _ _ _ _ _ _ hst₄ e₅ k₅ (wb_clear cx₄.ok hl₄.isList hAv) fun b hb => ⟨fpWB b hb, fpFS b hb⟩
            refine ⟨ds.length - (i + 1), by omega, ?_⟩
            rw [hInv]
            exact ⟨i + 1, h₅, tk₅, f₅, its₅, don ++ a, b, rfl, rfl, hlt, by omega, ((hext.trans e₂).trans e₄).trans e₅, hst₅, cx₅.view back, hl₅, by rw [← List.append_assoc]; exact r₅, by simp, hb, kk.trans (KeepX.weaken k₅ fun b o e q => .inl q)⟩
        · obtain ⟨v, rfl, hv⟩ := h₁
          exact hv
      · cases hrest
    · cases hrest
  · have hin : i = ds.length := by omega
    subst hin
    refine itr.done _ f' _ _ hst fun h₂ tk₂ t₂ kB => ?_
    have t₂' : tk ≤ tk₂ := t₂
    have hz : rest = [] := by
      rw [List.drop_length] at hrest
      cases hrest; rfl
    subst hz
    have gB : WGood h₁ Av (· ∈ fp) H h₂ := fun b hb => by
      obtain ⟨o, vs, e1, d1⟩ := itr.objs _ _ _ hst b hb
      exact ⟨(hfp b hb).1, .inl ⟨⟨o, vs, e1, d1⟩, (hfp b hb).2⟩⟩
    rw [List.append_nil] at hR
    exact hR h₂ tk₂ f' its' (Nat.le_trans htk t₂') hext (hk.trans (KeepX.weaken kB.keepX fun b o e q => .inr q))
      (Cx.keepG (s := { s with heap := H, toks := tk }) cx' kB.keepX gB (.refl _) (cx'.wd.mono t₂'))
      (plKeep hl' (kB.keepX (A := A)) dstfp) (RdAll.keepX (kB.keepX (A := A)) clB (.refl _) _ r')
end
end Mine
end

section
namespace Mine
open PySem PySem.W PyProof.Rows

section
variable {prog : Program} {w : World} {A : Around} {E : Value → Shared → Prop} {f : TokMap} {Av : Addr → Prop} {s : Shared} {a b : Value} {da db d : D}

theorem strs_of {h : Heap} : ∀ {ds : List D} {ys : List Str} {vs : List Value}, strsOf ds = some ys → RdAll f Av h vs ds → ∃ l : List (Str × Tok), vs = strValues l ∧ l.map (·.1) = ys ∧ (∀ p ∈ l, p.2 ≠ 0 ∧ f p.2 = some (.inr p.1) ∧ PyData.strOk p.1 = true)
  | [], _, _, e, r => by cases e; cases r; exact ⟨[], rfl, rfl, fun p hp => absurd hp (by simp)⟩
  | d :: ds, ys, _, e, ⟨v, ws, p, q1, q2⟩ => by
    cases d <;> simp only [strsOf] at e <;> first | (cases e; done) | skip
    obtain ⟨zs, hz, rfl⟩ := Option.map_eq_some_iff.mp e
    obtain ⟨l, rfl, rfl, hl⟩ := strs_of hz q2
    obtain ⟨t, rfl, t0, tf, ok⟩ := q1
    refine ⟨(_, t) :: l, p, rfl, fun q hq => ?_⟩
    rcases List.mem_cons.mp hq with rfl | hq
    · exact ⟨t0, tf, ok⟩
    · exact hl q hq

theorem glued_empty (sep : Str) (hs : sep.length = 0) : ∀ ys : List Str, Builtin.Str.glued sep ys = ⟨(ys.flatMap (·.cps.toList)).toArray⟩ := by
  have h0 : sep.cps = #[] := Array.eq_empty_of_size_eq_zero hs
  have key : ∀ (ys : List Str) (a : Array Nat), ys.foldl (fun acc p => acc ++ sep.cps ++ p.cps) a = a ++ (ys.flatMap (·.cps.toList)).toArray := by
    intro ys
    induction ys with
    | nil => intro a; simp
    | cons y ys ih => intro a; rw [List.foldl_cons, ih, h0]; apply Array.toList_inj.mp; simp [List.flatMap_cons]
  intro ys
  cases ys with
  | nil => rfl
  | cons y ys =>
    unfold Builtin.Str.glued
    congr 1
    rw [List.drop_one, List.tail_cons, List.headD_cons, key, List.flatMap_cons]
    apply Array.toList_inj.mp
    simp

theorem join_sound (h : joinD da db = some d) (hw : Wd f s.toks) (ra : Rd f Av s.heap a da) (rb : Rd f Av s.heap b db) :
    wpAny (model prog w) A (call (.builtin "str.join") [a, b]) (Got A f Av s d) E s := by
  unfold joinD at h
  split at h
  · rename_i sep xs
    split at h
    · rename_i ys hys
      split at h
      · rename_i hc
        cases h
        obtain ⟨t, rfl, _⟩ := ra
        obtain ⟨D, its, rfl, _, hl, r⟩ := rb
        obtain ⟨l, hv, rfl, hl'⟩ := strs_of hys r
        have hit : its = (strValues l).toArray := by apply Array.toList_inj.mp; rw [hv]
        rw [hit] at hl
        obtain ⟨hs, hsz⟩ := hc
        have hsum : ∀ (zs : List Str) (k : Nat), zs.foldl (· + ·.length + sep.length) k = k + (zs.map (·.length)).sum := by
          intro zs
          induction zs with
          | nil => intro k; simp
          | cons z zs ih => intro k; rw [List.foldl_cons, ih, hs]; simp only [List.map_cons, List.sum_cons]; omega
        have hfit : Builtin.Str.tooLong ((l.map (·.1)).toArray.foldl (· + ·.length + sep.length) 0) = false := by
          have e1 : (l.map (·.1)).toArray.foldl (· + ·.length + sep.length) 0 = 0 + ((l.map (·.1)).map (·.length)).sum := by
            rw [List.foldl_toArray]; exact hsum _ 0
          rw [e1]
          have := lim_le
          unfold Builtin.Str.tooLong
          simp only [decide_eq_false_iff_not]
          omega
        have okl : PyData.strOk ⟨((l.map (·.1)).flatMap (·.cps.toList)).toArray⟩ = true := by
          clear hys hsz hfit hit hl hv r
          induction l with
          | nil => decide +kernel
          | cons p l ih =>
            have h1 := (hl' p (List.mem_cons_self ..)).2.2
            have h2 := ih fun q hq => hl' q (List.mem_cons_of_mem _ hq)
            have := strOk_append h1 h2
            rw [List.map_cons, List.flatMap_cons]
            have e : (⟨(p.1.cps.toList ++ (l.map (·.1)).flatMap (·.cps.toList)).toArray⟩ : Str) = p.1 ++ ⟨((l.map (·.1)).flatMap (·.cps.toList)).toArray⟩ := by
              show _ = Str.mk _
              congr 1
              apply Array.toList_inj.mp
              simp
            rw [e]; exact this
        have hlen : (Str.mk ((l.map (·.1)).flatMap (·.cps.toList)).toArray).length ≤ sizeLine := by
          have := lim_le
          simp only [Str.length, List.size_toArray, List.length_flatMap, Array.length_toList] at hsz ⊢
          have e : (List.map (fun x => x.cps.size) (List.map (·.1) l)).sum = (List.map Str.length (List.map (·.1) l)).sum := rfl
          omega
        refine call_meets F.slot_str_join (typeIs_str _ _ _) F.entry_str_join (F.args_str_join_2 _ _) (meets_str_join_list sep t D l hfit) ⟨hl, ?_⟩
        have two : (Made.str (Builtin.Str.glued sep (l.map (·.1)))).post (fun v s' => wants (Got A f Av s (.str ⟨((l.map (·.1)).flatMap (·.cps.toList)).toArray⟩)) E (.ok (.ret v)) s') s := by
          rw [glued_empty sep hs]
          exact ⟨hlen, .str .tok hw (Nat.le_refl _) (Nat.lt_succ_self _) okl⟩
        match l, two, hl' with
        | [], two, _ => exact two
        | [p], _, hl' =>
          obtain ⟨p0, pf, pok⟩ := hl' p (List.mem_cons_self ..)
          have e : (Str.mk (([p].map (·.1)).flatMap (·.cps.toList)).toArray) = p.1 := by
            show Str.mk _ = p.1
            cases h : p.1
            simp [h]
          rw [e]
          exact Got.same .refl hw (Nat.le_refl _) ⟨p.2, rfl, p0, pf, pok⟩
        | _ :: _ :: _, two, _ => exact two
      · cases h
    · cases h
  · cases h

theorem index_sound (h : indexD da db = some d) (hw : Wd f s.toks) (ra : Rd f Av s.heap a da) (rb : Rd f Av s.heap b db) :
    wpAny (model prog w) A (call (.builtin "str.index") [a, b]) (Got A f Av s d) E s := by
  unfold indexD at h
  split at h
  · rename_i x y
    split at h
    · rename_i hx
      obtain ⟨t, rfl, _⟩ := ra
      obtain ⟨u, rfl, _⟩ := rb
      have ex : x = ⟨#[97, 98, 99]⟩ := by
        cases x with | mk c => congr 1; apply Array.toList_inj.mp; exact hx
      have key : ∀ (c : Nat) (i : Nat), y.cps.toList = [c] → Builtin.Str.occurrences ⟨#[97, 98, 99]⟩ ⟨#[c]⟩ 0 3 1 = [i] → d = .int i → wpAny (model prog w) A (call (.builtin "str.index") [.str x t, .str y u]) (Got A f Av s d) E s := by
        intro c i hy ho hd
        have ey : y = ⟨#[c]⟩ := by
          cases y with | mk c => congr 1; apply Array.toList_inj.mp; exact hy
        subst ex ey hd
        exact SC.index (i := i) (rest := []) ho (.int .tok hw (Nat.le_refl _) (Nat.lt_succ_self _))
      split at h
      · rename_i hy; cases h; exact key _ 0 hy (by decide +kernel) rfl
      · rename_i hy; cases h; exact key _ 1 hy (by decide +kernel) rfl
      · rename_i hy; cases h; exact key _ 2 hy (by decide +kernel) rfl
      · cases h
    · cases h
  · cases h
end
end Mine
end

section
namespace Mine
open PySem PySem.W PyProof.Rows

/-- what a def's call answers, at a level of room -/
noncomputable def CallOk (prog : Program) (w : World) (tab : Nat → Str) (h₁ : Heap) (mg : Str → Option Value) (lvl : Nat) (G : Or) : Prop :=
  ∀ i ds d, G i ds = some d → ∃ a fd o, mg (tab i) = some (.ref a) ∧ h₁.get? a = some o ∧ o.data = .func fd ∧
    ∀ (A : Around) (s : Shared) (f : TokMap) (Av : Addr → Prop) (vs : List Value) (E : Value → Shared → Prop), AOk lvl A → SI h₁ A s.heap → (∀ a, Av a → ∃ o, s.heap.get? a = some o) → Wd f s.toks → RdAll f Av s.heap vs ds →
      wpAny (model prog w) A (call (.ref a) vs) (Got A f Av s d) E s

structure Ctxt where
  prog : Program
  w : World
  tab : Nat → Str
  h₁ : Heap
  mg : Str → Option Value
  mb : Str → Option Value
  G : Or
  lvl : Nat
structure Ctxt.Ok (Γ : Ctxt) : Prop where
  T : TabOk Γ.tab
  B : BaseOk Γ.h₁ Γ.mg Γ.mb
  call : CallOk Γ.prog Γ.w Γ.tab Γ.h₁ Γ.mg Γ.lvl Γ.G

noncomputable def SE (Γ : Ctxt) (kinds : List (Str × NameKind)) (c : C) : Prop := ∀ (ρ : Vw) (d : D), ev Γ.tab Γ.G c ρ = some d → ∀ (A : Around) (env : Env) (s : Shared) (f : TokMap) (Av : Addr → Prop) (E : Value → Shared → Prop),
  AOk Γ.lvl A → Cx Γ.tab Γ.h₁ A env kinds ρ f Av s → wpAny (model Γ.prog Γ.w) A (eval (c.toE Γ.tab) env) (Got A f Av s d) E s
noncomputable def GotB (A : Around) (f : TokMap) (s : Shared) (b : Bool) (b' : Bool) (s' : Shared) : Prop := b' = b ∧ KeepS A s s' ∧ ∃ f', Ext f f' ∧ Wd f' s'.toks
noncomputable def SB (Γ : Ctxt) (kinds : List (Str × NameKind)) (c : C) : Prop := ∀ (ρ : Vw) (b : Bool), boolOf (ev Γ.tab Γ.G c ρ) = some b → ∀ (A : Around) (env : Env) (s : Shared) (f : TokMap) (Av : Addr → Prop) (E : Value → Shared → Prop),
  AOk Γ.lvl A → Cx Γ.tab Γ.h₁ A env kinds ρ f Av s → wpAny (model Γ.prog Γ.w) A (isTrue (c.toE Γ.tab) env (eval (c.toE Γ.tab) env)) (GotB A f s b) E s
noncomputable def GotAll (A : Around) (f : TokMap) (Av : Addr → Prop) (s : Shared) (ds : List D) (vs : List Value) (s' : Shared) : Prop := KeepS A s s' ∧ ∃ f', Ext f f' ∧ Wd f' s'.toks ∧ RdAll f' Av s'.heap vs ds
noncomputable def SEs (Γ : Ctxt) (kinds : List (Str × NameKind)) (cs : Cs) : Prop := ∀ (ρ : Vw) (ds : List D), evs Γ.tab Γ.G cs ρ = some ds → ∀ (A : Around) (env : Env) (s : Shared) (f : TokMap) (Av : Addr → Prop) (E : Value → Shared → Prop) (pos : Pos),
  AOk Γ.lvl A → Cx Γ.tab Γ.h₁ A env kinds ρ f Av s → wpAny (model Γ.prog Γ.w) A (spliced (backTo pos (starEach (cs.toE Γ.tab) env))) (GotAll A f Av s ds) E s
noncomputable def SIfs (Γ : Ctxt) (kinds : List (Str × NameKind)) (cs : Cs) : Prop := ∀ (ρ : Vw) (b : Bool), evIfs Γ.tab Γ.G cs ρ = some b → ∀ (A : Around) (env : Env) (s : Shared) (f : TokMap) (Av : Addr → Prop) (E : Value → Shared → Prop),
  AOk Γ.lvl A → Cx Γ.tab Γ.h₁ A env kinds ρ f Av s → wpAny (model Γ.prog Γ.w) A (testsOf (cs.toE Γ.tab) env) (GotB A f s b) E s

section
variable {Γ : Ctxt} {kinds : List (Str × NameKind)} {A : Around} {env : Env} {s s₂ : Shared} {f f₂ : TokMap} {Av : Addr → Prop} {E : Value → Shared → Prop} {ρ : Vw} {a b c : C} {da db d : D}

theorem boolOf_inv {o : Option D} {b : Bool} (h : boolOf o = some b) : o = some (.bool b) := by
  unfold boolOf at h
  split at h
  · cases h; rfl
  · cases h
theorem one (ha : SE Γ kinds a) (e : ev Γ.tab Γ.G a ρ = some da) (ao : AOk Γ.lvl A) (cx : Cx Γ.tab Γ.h₁ A env kinds ρ f Av s) {Q : Value → Shared → Prop}
    (h : ∀ v s₁ f₁, KeepS A s s₁ → Ext f f₁ → Cx Γ.tab Γ.h₁ A env kinds ρ f₁ Av s₁ → Rd f₁ Av s₁.heap v da → Q v s₁) : wpAny (model Γ.prog Γ.w) A (eval (a.toE Γ.tab) env) Q E s :=
  wpAny_mono (ha ρ da e A env s f Av E ao cx) (fun v s₁ ⟨k, f₁, ex, wd, r⟩ => h v s₁ f₁ k ex (cx.keep k ex wd) r) fun _ _ q => q
theorem oneB (ha : SB Γ kinds a) {t : Bool} (e : boolOf (ev Γ.tab Γ.G a ρ) = some t) (ao : AOk Γ.lvl A) (cx : Cx Γ.tab Γ.h₁ A env kinds ρ f Av s) {Q : Bool → Shared → Prop}
    (h : ∀ s₁ f₁, KeepS A s s₁ → Ext f f₁ → Cx Γ.tab Γ.h₁ A env kinds ρ f₁ Av s₁ → Q t s₁) : wpAny (model Γ.prog Γ.w) A (isTrue (a.toE Γ.tab) env (eval (a.toE Γ.tab) env)) Q E s :=
  wpAny_mono (ha ρ t e A env s f Av E ao cx) (fun v s₁ ⟨e, k, f₁, ex, wd⟩ => e ▸ h s₁ f₁ k ex (cx.keep k ex wd)) fun _ _ q => q
theorem two (ha : SE Γ kinds a) (hb : SE Γ kinds b) (e : ev Γ.tab Γ.G a ρ = some da) (e' : ev Γ.tab Γ.G b ρ = some db) (ao : AOk Γ.lvl A) (cx : Cx Γ.tab Γ.h₁ A env kinds ρ f Av s) {Q : Value → Value → Shared → Prop}
    (h : ∀ v u s₁ f₁, KeepS A s s₁ → Ext f f₁ → Cx Γ.tab Γ.h₁ A env kinds ρ f₁ Av s₁ → Rd f₁ Av s₁.heap v da → Rd f₁ Av s₁.heap u db → Q v u s₁) :
    wpAny (model Γ.prog Γ.w) A (eval (a.toE Γ.tab) env) (fun v s₁ => wpAny (model Γ.prog Γ.w) A (eval (b.toE Γ.tab) env) (fun u s₂ => Q v u s₂) E s₁) E s :=
  one ha e ao cx fun v s₁ f₁ k ex cx₁ r => one hb e' ao cx₁ fun u s₂ f₂ k₂ ex₂ cx₂ r₂ => h v u s₂ f₂ (k.trans k₂) (ex.trans ex₂) cx₂ (r.keep k₂.keep ex₂) r₂
theorem fin {t : Sem Value} (k : KeepS A s s₂) (e : Ext f f₂) (h : wpAny (model Γ.prog Γ.w) A t (Got A f₂ Av s₂ d) E s₂) : wpAny (model Γ.prog Γ.w) A t (Got A f Av s d) E s₂ :=
  wpAny_mono h (fun _ _ g => g.trans k e) fun _ _ q => q

theorem AOk.room {lvl : Nat} (ao : AOk lvl A) : A.units + 100 < cLine := by have := ao.units; unfold cLine; omega

theorem se_int (n : Int) (p : Pos) : SE Γ kinds (.int n p) := fun ρ d h A env s f Av E ao cx => by
  cases h
  exact wpAny_Constant_int (.int .tok cx.wd (Nat.le_refl _) (Nat.lt_succ_self _))
theorem se_str (n : String) (p : Pos) (ok : PyData.strOk (Str.ofString n) = true) : SE Γ kinds (.str n p) := fun ρ d h A env s f Av E ao cx => by
  cases h
  exact wpAny_Constant_str (.str .tok cx.wd (Nat.le_refl _) (Nat.lt_succ_self _) ok)
theorem se_bool (n : Bool) (p : Pos) : SE Γ kinds (.bool n p) := fun ρ d h A env s f Av E ao cx => by
  cases h
  exact wpAny_Constant_bool (.bool .refl cx.wd (Nat.le_refl _))
theorem se_nothing : SE Γ kinds .nothing := fun ρ d h A env s f Av E ao cx => by
  cases h
  exact wpAny_Constant_none (.same .refl cx.wd (Nat.le_refl _) rfl)
theorem se_var (ok : Γ.Ok) (i : Nat) (p : Pos) : SE Γ kinds (.var i p) := fun ρ d h A env s f Av E ao cx => var_sound ok.T cx h

theorem se_bin {o : BO} {p : Pos} (ha : SE Γ kinds a) (hb : SE Γ kinds b) : SE Γ kinds (.bin o a b p) := fun ρ d h A env s f Av E ao cx => by
  simp only [ev_e1, ev_e2, ev_e3, ev_e4, ev_e5, ev_e6, ev_e7, ev_e8, ev_e9, ev_e10, ev_e11, ev_e12, ev_e13, ev_e14, ev_e15, ev_e16, ev_e17, ev_e18, ev_e19, ev_e20, ev_e21, ev_e22, ev_e23, ev_e24, ev_e25, ev_e26, ev_e27, ev_e28] at h
  obtain ⟨x, hx, h⟩ := Option.bind_eq_some_iff.mp h
  obtain ⟨y, hy, h⟩ := Option.bind_eq_some_iff.mp h
  exact wpAny_BinOp (two ha hb hx hy ao cx fun v u s₁ f₁ k ex cx₁ r r' => fin k ex (bin_sound h cx₁.wd cx₁.av r r'))
theorem se_cmp {o : CO} {p : Pos} (ha : SE Γ kinds a) (hb : SE Γ kinds b) : SE Γ kinds (.cmp o a b p) := fun ρ d h A env s f Av E ao cx => by
  simp only [ev_e1, ev_e2, ev_e3, ev_e4, ev_e5, ev_e6, ev_e7, ev_e8, ev_e9, ev_e10, ev_e11, ev_e12, ev_e13, ev_e14, ev_e15, ev_e16, ev_e17, ev_e18, ev_e19, ev_e20, ev_e21, ev_e22, ev_e23, ev_e24, ev_e25, ev_e26, ev_e27, ev_e28] at h
  obtain ⟨x, hx, h⟩ := Option.bind_eq_some_iff.mp h
  obtain ⟨y, hy, h⟩ := Option.bind_eq_some_iff.mp h
  exact wpAny_Compare1 (two ha hb hx hy ao cx fun v u s₁ f₁ k ex cx₁ r r' => fin k ex (cmp_sound h ao.room cx₁.wd r r')) (by cases b <;> rfl)
/-- a value's truth, of a bool -/
theorem truth_of {t : Sem Value} {e : Bool} (h : wpAny (model Γ.prog Γ.w) A t (Got A f Av s (.bool e)) E s) :
    wpAny (model Γ.prog Γ.w) A t (fun v s₁ => wpAny (model Γ.prog Γ.w) A (truthy v) (GotB A f s e) E s₁) E s :=
  wpAny_mono h (fun v s₁ ⟨k, f₁, ex, wd, r⟩ => by cases r; exact wpAny_truthy_bool ⟨rfl, k, f₁, ex, wd⟩) fun _ _ q => q
noncomputable def plainT : C → Bool
  | .not .. | .notL .. | .and2 .. | .and3 .. | .or2 .. | .isOrEq .. | .ite .. | .cmp .. => false
  | _ => true
theorem sb_plain (hp : plainT a = true) (ha : SE Γ kinds a) : SB Γ kinds a := fun ρ b h A env s f Av E ao cx => by
  refine wpAny_isTrue_value (truth_of (ha ρ _ (boolOf_inv h) A env s f Av E ao cx)) ?_
  cases a <;> first | rfl | cases hp
theorem sb_cmp {o : CO} {p : Pos} (ha : SE Γ kinds a) (hb : SE Γ kinds b) : SB Γ kinds (.cmp o a b p) := fun ρ t h A env s f Av E ao cx => by
  have h := boolOf_inv h
  simp only [ev_e1, ev_e2, ev_e3, ev_e4, ev_e5, ev_e6, ev_e7, ev_e8, ev_e9, ev_e10, ev_e11, ev_e12, ev_e13, ev_e14, ev_e15, ev_e16, ev_e17, ev_e18, ev_e19, ev_e20, ev_e21, ev_e22, ev_e23, ev_e24, ev_e25, ev_e26, ev_e27, ev_e28] at h
  obtain ⟨x, hx, h⟩ := Option.bind_eq_some_iff.mp h
  obtain ⟨y, hy, h⟩ := Option.bind_eq_some_iff.mp h
  refine wpAny_isTrue_Compare1 (two ha hb hx hy ao cx fun v u s₁ f₁ k ex cx₁ r r' => ?_) (by cases b <;> rfl)
  exact wpAny_mono (truth_of (cmp_sound h ao.room cx₁.wd r r')) (fun v s₂ hv => wpAny_mono hv (fun e s₃ ⟨q, k', f', ex', wd⟩ => ⟨q, k.trans k', f', ex.trans ex', wd⟩) fun _ _ q => q) fun _ _ q => q

theorem se_neg {p : Pos} (ha : SE Γ kinds a) : SE Γ kinds (.neg a p) := fun ρ d h A env s f Av E ao cx => by
  simp only [ev_e1, ev_e2, ev_e3, ev_e4, ev_e5, ev_e6, ev_e7, ev_e8, ev_e9, ev_e10, ev_e11, ev_e12, ev_e13, ev_e14, ev_e15, ev_e16, ev_e17, ev_e18, ev_e19, ev_e20, ev_e21, ev_e22, ev_e23, ev_e24, ev_e25, ev_e26, ev_e27, ev_e28] at h
  obtain ⟨x, hx, h⟩ := Option.bind_eq_some_iff.mp h
  obtain ⟨n, hn, rfl⟩ := Option.map_eq_some_iff.mp h
  refine wpAny_UnaryOp (one ha hx ao cx fun v s₁ f₁ k ex cx₁ r => fin k ex ?_)
  obtain ⟨t, rfl⟩ := r.num hn
  exact PyProof.Rows.neg_int (.int .tok cx₁.wd (Nat.le_refl _) (Nat.lt_succ_self _))
theorem se_or2 {p : Pos} (ha : SE Γ kinds a) (hb : SE Γ kinds b) : SE Γ kinds (.or2 a b p) := fun ρ d h A env s f Av E ao cx => by
  simp only [ev_e1, ev_e2, ev_e3, ev_e4, ev_e5, ev_e6, ev_e7, ev_e8, ev_e9, ev_e10, ev_e11, ev_e12, ev_e13, ev_e14, ev_e15, ev_e16, ev_e17, ev_e18, ev_e19, ev_e20, ev_e21, ev_e22, ev_e23, ev_e24, ev_e25, ev_e26, ev_e27, ev_e28] at h
  obtain ⟨x, hx, h⟩ := Option.bind_eq_some_iff.mp h
  refine wpAny_Or2 (one ha (boolOf_inv hx) ao cx fun v s₁ f₁ k ex cx₁ r => ?_)
  cases r
  refine wpAny_truthy_bool ?_
  cases x with
  | false => exact fin k ex (hb ρ d (by simpa using h) A env s₁ f₁ Av E ao cx₁)
  | true => cases h; exact (Got.bool .refl cx₁.wd (Nat.le_refl _)).trans k ex
theorem sb_or2 {p : Pos} (ha : SB Γ kinds a) (hb : SB Γ kinds b) : SB Γ kinds (.or2 a b p) := fun ρ t h A env s f Av E ao cx => by
  have h := boolOf_inv h
  simp only [ev_e1, ev_e2, ev_e3, ev_e4, ev_e5, ev_e6, ev_e7, ev_e8, ev_e9, ev_e10, ev_e11, ev_e12, ev_e13, ev_e14, ev_e15, ev_e16, ev_e17, ev_e18, ev_e19, ev_e20, ev_e21, ev_e22, ev_e23, ev_e24, ev_e25, ev_e26, ev_e27, ev_e28] at h
  obtain ⟨x, hx, h⟩ := Option.bind_eq_some_iff.mp h
  refine wpAny_isTrue_BoolOp (wpAny_allTrue_Or_cons (oneB ha hx ao cx fun s₁ f₁ k ex cx₁ => ?_))
  cases x with
  | false =>
    simp only [Bool.false_eq_true, if_false] at h ⊢
    refine wpAny_allTrue_Or_cons (oneB hb (by rw [h]; rfl) ao cx₁ fun s₂ f₂ k₂ ex₂ cx₂ => ?_)
    cases t with
    | false => exact wpAny_allTrue_Or_nil ⟨rfl, k.trans k₂, f₂, ex.trans ex₂, cx₂.wd⟩
    | true => exact ⟨rfl, k.trans k₂, f₂, ex.trans ex₂, cx₂.wd⟩
  | true => cases h; exact ⟨rfl, k, f₁, ex, cx₁.wd⟩

theorem se_ite {t : C} {p : Pos} (ht : SB Γ kinds t) (ha : SE Γ kinds a) (hb : SE Γ kinds b) : SE Γ kinds (.ite t a b p) := fun ρ d h A env s f Av E ao cx => by
  simp only [ev_e1, ev_e2, ev_e3, ev_e4, ev_e5, ev_e6, ev_e7, ev_e8, ev_e9, ev_e10, ev_e11, ev_e12, ev_e13, ev_e14, ev_e15, ev_e16, ev_e17, ev_e18, ev_e19, ev_e20, ev_e21, ev_e22, ev_e23, ev_e24, ev_e25, ev_e26, ev_e27, ev_e28] at h
  obtain ⟨x, hx, h⟩ := Option.bind_eq_some_iff.mp h
  refine wpAny_IfExp (oneB ht hx ao cx fun s₁ f₁ k ex cx₁ => ?_)
  cases x with
  | true => exact fin k ex (ha ρ d (by simpa using h) A env s₁ f₁ Av E ao cx₁)
  | false => exact fin k ex (hb ρ d (by simpa using h) A env s₁ f₁ Av E ao cx₁)

theorem wpAny_isTrue_IfExp {M : Model} {t x y : Expr} {pos : Pos} {whole : Sem Value} {Q : Bool → Shared → Prop}
    (h : wpAny M A (isTrue t env (eval t env)) (fun b s₁ => if b then wpAny M A (isTrue x env (eval x env)) Q E s₁ else wpAny M A (isTrue y env (eval y env)) Q E s₁) E s) : wpAny M A (isTrue (.IfExp t x y pos) env whole) Q E s := by
  show wpAny M A (do if ← isTrue t env (eval t env) then isTrue x env (eval x env) else isTrue y env (eval y env)) Q E s
  refine wpAny_bind (wpAny_mono h (fun b s₁ h₁ => ?_) fun _ _ x => x)
  cases b <;> exact h₁
theorem sb_ite {t : C} {p : Pos} (ht : SB Γ kinds t) (ha : SB Γ kinds a) (hb : SB Γ kinds b) : SB Γ kinds (.ite t a b p) := fun ρ e h A env s f Av E ao cx => by
  have h := boolOf_inv h
  simp only [ev_e1, ev_e2, ev_e3, ev_e4, ev_e5, ev_e6, ev_e7, ev_e8, ev_e9, ev_e10, ev_e11, ev_e12, ev_e13, ev_e14, ev_e15, ev_e16, ev_e17, ev_e18, ev_e19, ev_e20, ev_e21, ev_e22, ev_e23, ev_e24, ev_e25, ev_e26, ev_e27, ev_e28] at h
  obtain ⟨x, hx, h⟩ := Option.bind_eq_some_iff.mp h
  refine wpAny_isTrue_IfExp (oneB ht hx ao cx fun s₁ f₁ k ex cx₁ => ?_)
  cases x with
  | true => exact oneB ha (by simp only [if_true] at h; rw [h]; rfl) ao cx₁ fun s₂ f₂ k₂ ex₂ cx₂ => ⟨rfl, k.trans k₂, f₂, ex.trans ex₂, cx₂.wd⟩
  | false => exact oneB hb (by simp only [Bool.false_eq_true, if_false] at h; rw [h]; rfl) ao cx₁ fun s₂ f₂ k₂ ex₂ cx₂ => ⟨rfl, k.trans k₂, f₂, ex.trans ex₂, cx₂.wd⟩

theorem ses_nil : SEs Γ kinds .nil := fun ρ ds h A env s f Av E pos ao cx => by
  cases h
  exact Calls.spliced_nil ⟨.refl, f, .refl f, cx.wd, .nil⟩
theorem ses_cons {r : Cs} (ha : SE Γ kinds a) (hr : SEs Γ kinds r) : SEs Γ kinds (.cons a r) := fun ρ ds h A env s f Av E pos ao cx => by
  simp only [evs_e1, evs_e2] at h
  obtain ⟨x, hx, h⟩ := Option.bind_eq_some_iff.mp h
  obtain ⟨xs, hxs, rfl⟩ := Option.map_eq_some_iff.mp h
  have e : backTo pos (starEach ((Cs.cons a r).toE Γ.tab) env) = (false, eval (a.toE Γ.tab) env) :: backTo pos (starEach (r.toE Γ.tab) env) := by cases a <;> rfl
  rw [e]
  refine Calls.spliced_cons (one ha hx ao cx fun v s₁ f₁ k ex cx₁ rv => ?_)
  exact wpAny_mono (hr ρ xs hxs A env s₁ f₁ Av E pos ao cx₁) (fun vs s₂ ⟨k₂, f₂, ex₂, wd₂, r₂⟩ => ⟨k.trans k₂, f₂, ex.trans ex₂, wd₂, .cons (rv.keep k₂.keep ex₂) r₂⟩) fun _ _ q => q

theorem se_list {es : Cs} {p : Pos} (h : SEs Γ kinds es) : SE Γ kinds (.list es p) := fun ρ d hd A env s f Av E ao cx => by
  simp only [ev_e1, ev_e2, ev_e3, ev_e4, ev_e5, ev_e6, ev_e7, ev_e8, ev_e9, ev_e10, ev_e11, ev_e12, ev_e13, ev_e14, ev_e15, ev_e16, ev_e17, ev_e18, ev_e19, ev_e20, ev_e21, ev_e22, ev_e23, ev_e24, ev_e25, ev_e26, ev_e27, ev_e28] at hd
  obtain ⟨ds, hds, hd⟩ := Option.bind_eq_some_iff.mp hd
  obtain ⟨hsz, rfl⟩ := mkList_inv hd
  refine List_ (wpAny_mono (h ρ ds hds A env s f Av E p ao cx) (fun vs s₁ ⟨k, f₁, ex, wd, r⟩ => ?_) fun _ _ q => q)
  refine wpAny_newObj_type ?_ (by show vs.toArray.size ≤ sizeLine; rw [List.size_toArray, r.length]; have := lim_le; omega)
  exact (got_newList wd (cx.keep k ex wd).av r).trans k ex
theorem se_tuple {es : Cs} {p : Pos} (h : SEs Γ kinds es) : SE Γ kinds (.tuple es p) := fun ρ d hd A env s f Av E ao cx => by
  simp only [ev_e1, ev_e2, ev_e3, ev_e4, ev_e5, ev_e6, ev_e7, ev_e8, ev_e9, ev_e10, ev_e11, ev_e12, ev_e13, ev_e14, ev_e15, ev_e16, ev_e17, ev_e18, ev_e19, ev_e20, ev_e21, ev_e22, ev_e23, ev_e24, ev_e25, ev_e26, ev_e27, ev_e28] at hd
  obtain ⟨ds, hds, hd⟩ := Option.bind_eq_some_iff.mp hd
  split at hd
  · rename_i hsz
    cases hd
    refine Tuple_ (wpAny_mono (h ρ ds hds A env s f Av E p ao cx) (fun vs s₁ ⟨k, f₁, ex, wd, r⟩ => ?_) fun _ _ q => q)
    refine wpAny_newObj_type ?_ (by show vs.toArray.size ≤ sizeLine; rw [List.size_toArray, r.length]; have := lim_le; omega)
    exact Got.trans k ex (.same (keep_push _) wd (Nat.le_refl _) ⟨_, vs.toArray, rfl, isTup_push _ _, r.keep (keep_push (A := A) _).keep (.refl f₁)⟩)
  · cases hd

theorem sifs_nil : SIfs Γ kinds .nil := fun ρ b h A env s f Av E ao cx => by
  cases h
  exact wpAny_pure ⟨rfl, .refl, f, .refl f, cx.wd⟩
theorem tests_false (M : Model) (cs : List Expr) {Q : Bool → Shared → Prop} (h : Q false s) : wpAny M A (forIn cs false fun c r => if r = true then do let ok ← isTrue c env (eval c env); pure (ForInStep.yield ok) else pure (ForInStep.yield r)) Q E s := by
  induction cs with
  | nil => exact wpAny_pure h
  | cons c cs ih => rw [List.forIn_cons]; exact ih
theorem sifs_cons {r : Cs} (ha : SB Γ kinds a) (hr : SIfs Γ kinds r) : SIfs Γ kinds (.cons a r) := fun ρ b h A env s f Av E ao cx => by
  simp only [evIfs_e1, evIfs_e2] at h
  obtain ⟨x, hx, h⟩ := Option.bind_eq_some_iff.mp h
  show wpAny _ A (forIn (a.toE Γ.tab :: r.toE Γ.tab) true _) _ _ _
  rw [List.forIn_cons]
  simp only [if_true, bind_assoc, pure_bind]
  refine wpAny_bind (oneB ha hx ao cx fun s₁ f₁ k ex cx₁ => ?_)
  cases x with
  | true => exact wpAny_mono (hr ρ b (by simpa using h) A env s₁ f₁ Av E ao cx₁) (fun e s₃ ⟨q, k', f', ex', wd⟩ => ⟨q, k.trans k', f', ex.trans ex', wd⟩) fun _ _ q => q
  | false => cases h; exact tests_false _ _ ⟨rfl, k, f₁, ex, cx₁.wd⟩
end
end Mine
end

section
namespace Mine
open PySem PySem.W PyProof.Rows

section
variable {Γ : Ctxt} {kinds : List (Str × NameKind)} {A : Around} {env : Env} {s s₂ : Shared} {f f₂ : TokMap} {Av : Addr → Prop} {E : Value → Shared → Prop} {ρ : Vw} {a b c : C} {da db d : D}

theorem itemD_seq {di : D} (h : itemD da di = some d) {v : Value} (r : Rd f Av s.heap v da) : ∃ T id, typeLookup (.type T) "__getitem__" = pure (some (.builtin id)) ∧ s.TypeIs v T := by
  unfold itemD at h
  split at h
  · split at h
    · split at h
      · obtain ⟨l, its, rfl, _, hl, _⟩ := r; exact ⟨_, _, list_getitem_lookup, hl.typeIs⟩
      · obtain ⟨t, rfl, _⟩ := r; exact ⟨_, _, F.slot_str_getitem.lookup, typeIs_str _ _ _⟩
      · cases h
    · cases h
  · cases h
theorem sliceD_seq {lo hi st : D} (h : sliceD da lo hi st = some d) {v : Value} (r : Rd f Av s.heap v da) : ∃ T id, typeLookup (.type T) "__getitem__" = pure (some (.builtin id)) ∧ s.TypeIs v T := by
  unfold sliceD at h
  obtain ⟨pl, hpl, h⟩ := Option.bind_eq_some_iff.mp h
  obtain ⟨pu, hpu, h⟩ := Option.bind_eq_some_iff.mp h
  obtain ⟨ps, hps, h⟩ := Option.bind_eq_some_iff.mp h
  split at h
  · obtain ⟨l, its, rfl, _, hl, _⟩ := r; exact ⟨_, _, list_getitem_lookup, hl.typeIs⟩
  · obtain ⟨t, rfl, _⟩ := r; exact ⟨_, _, F.slot_str_getitem.lookup, typeIs_str _ _ _⟩
  · cases h

theorem se_item {i : C} {p : Pos} (ha : SE Γ kinds a) (hi : SE Γ kinds i) : SE Γ kinds (.item a i p) := fun ρ d h A env s f Av E ao cx => by
  simp only [ev_e1, ev_e2, ev_e3, ev_e4, ev_e5, ev_e6, ev_e7, ev_e8, ev_e9, ev_e10, ev_e11, ev_e12, ev_e13, ev_e14, ev_e15, ev_e16, ev_e17, ev_e18, ev_e19, ev_e20, ev_e21, ev_e22, ev_e23, ev_e24, ev_e25, ev_e26, ev_e27, ev_e28] at h
  obtain ⟨x, hx, h⟩ := Option.bind_eq_some_iff.mp h
  obtain ⟨y, hy, h⟩ := Option.bind_eq_some_iff.mp h
  refine Subscript_ (two ha hi hx hy ao cx fun v u s₁ f₁ k ex cx₁ r r' => fin k ex ?_)
  obtain ⟨T, id, hl, hT⟩ := itemD_seq h r
  exact tail_any (ops := [v, u]) hT hl (item_sound h cx₁.wd r r') (by cases i <;> rfl)

noncomputable def partC : C → Bool
  | .nothing | .int .. | .var .. | .bin .. | .neg .. => true
  | _ => false
theorem part_step (hp : partC a = true) {Q : Value → Shared → Prop} (h : wpAny (model Γ.prog Γ.w) A (eval (a.toE Γ.tab) env) Q E s) : wpAny (model Γ.prog Γ.w) A (evalPart (a.toO Γ.tab) env) Q E s := by
  cases a <;> first | (cases hp; done) | exact evalPart_some_step h
theorem se_slice {lo hi st : C} {ps p : Pos} (hl : partC lo = true) (hh : partC hi = true) (hs : partC st = true) (ha : SE Γ kinds a) (h1 : SE Γ kinds lo) (h2 : SE Γ kinds hi) (h3 : SE Γ kinds st) : SE Γ kinds (.slice a lo hi st ps p) := fun ρ d h A env s f Av E ao cx => by
  simp only [ev_e1, ev_e2, ev_e3, ev_e4, ev_e5, ev_e6, ev_e7, ev_e8, ev_e9, ev_e10, ev_e11, ev_e12, ev_e13, ev_e14, ev_e15, ev_e16, ev_e17, ev_e18, ev_e19, ev_e20, ev_e21, ev_e22, ev_e23, ev_e24, ev_e25, ev_e26, ev_e27, ev_e28] at h
  obtain ⟨x, hx, h⟩ := Option.bind_eq_some_iff.mp h
  obtain ⟨y1, hy1, h⟩ := Option.bind_eq_some_iff.mp h
  obtain ⟨y2, hy2, h⟩ := Option.bind_eq_some_iff.mp h
  obtain ⟨y3, hy3, h⟩ := Option.bind_eq_some_iff.mp h
  refine Subscript_ (one ha hx ao cx fun v s₁ f₁ k ex cx₁ r => wpAny_Slice (part_step hl (one h1 hy1 ao cx₁ fun v1 s₂ f₂ k2 ex2 cx₂ r1 =>
    part_step hh (one h2 hy2 ao cx₂ fun v2 s₃ f₃ k3 ex3 cx₃ r2 => part_step hs (one h3 hy3 ao cx₃ fun v3 s₄ f₄ k4 ex4 cx₄ r3 => ?_)))))
  have kp : KeepS A s₄ { s₄ with heap := s₄.heap.push { cls := .type "slice", data := .fields #[v1, v2, v3] } } := keep_push _
  have cx₅ := cx₄.keep kp (.refl f₄) cx₄.wd
  have r' := ((r.keep k2.keep ex2).keep k3.keep ex3).keep k4.keep ex4
  refine fin (((((k.trans k2).trans k3).trans k4)).trans kp) (((ex.trans ex2).trans ex3).trans ex4) ?_
  have r'' := r'.keep kp.keep (.refl f₄)
  obtain ⟨T, id, hlk, hT⟩ := sliceD_seq h r''
  refine tail_any (ops := if (st.toO Γ.tab).isNone then [.ref s₄.heap.objs.size, v] else [v, .ref s₄.heap.objs.size]) hT hlk
    (slice_sound h cx₅.wd cx₅.av r'' (((r1.keep k3.keep ex3).keep k4.keep ex4).keep kp.keep (.refl f₄)) ((r2.keep k4.keep ex4).keep kp.keep (.refl f₄)) (r3.keep kp.keep (.refl f₄)) (Heap.IsSliceOf.new _ _ _ _)) ?_
  cases st <;> first | (cases hs; done) | rfl

/-! calls -/
theorem back_cons (tab : Nat → Str) (a : C) (r : Cs) (pos : Pos) (env : Env) : backTo pos (starEach ((Cs.cons a r).toE tab) env) = (false, eval (a.toE tab) env) :: backTo pos (starEach (r.toE tab) env) := by cases a <;> rfl
theorem back_plain (tab : Nat → Str) (pos : Pos) (env : Env) : ∀ (r : Cs), (backTo pos (starEach (r.toE tab) env)).any (·.1) = false
  | .nil => rfl
  | .cons a r => by rw [back_cons, List.any_cons, back_plain tab pos env r]; rfl

noncomputable def isBuiltinName (x : Str) : Prop := x ∈ (["sum", "len", "min", "max", "range", "enumerate", "list", "ValueError"] : List Str)

theorem call_builtin_args (ok : Γ.Ok) (cx : Cx Γ.tab Γ.h₁ A env kinds ρ f Av s) {x : Str} {id : String} {r : Cs} {pf p : Pos} {Q : Value → Shared → Prop} (hx : kinds.lookup x = some .globalImplicit)
    (hb : isBuiltinName x) (hv : bootBuiltins x = some (.builtin id)) (hn : x ≠ "__name__") (hd : (x == ("__debug__" : Str)) = false)
    (h : wpAny (model Γ.prog Γ.w) A (spliced (backTo p (starEach ((Cs.cons a r).toE Γ.tab) env))) (fun vs s₁ => wpAny (model Γ.prog Γ.w) A (call (.builtin id) vs) Q E s₁) E s) :
    wpAny (model Γ.prog Γ.w) A (eval (.Call (.Name x pf) ((Cs.cons a r).toE Γ.tab) [] p) env) Q E s := by
  refine Call_Name rfl (nameB ok.B cx hx hb hv hn hd (Calls.callWith_builtin (back_plain _ _ _ _) ?_))
  rw [back_cons] at h ⊢
  exact Calls.evalArgs_plain h
theorem call_type_args (ok : Γ.Ok) (cx : Cx Γ.tab Γ.h₁ A env kinds ρ f Av s) {x : Str} {id : String} {r : Cs} {pf p : Pos} {Q : Value → Shared → Prop} (hx : kinds.lookup x = some .globalImplicit)
    (hb : isBuiltinName x) (hv : bootBuiltins x = some (.type id)) (hn : x ≠ "__name__") (hd : (x == ("__debug__" : Str)) = false)
    (h : wpAny (model Γ.prog Γ.w) A (spliced (backTo p (starEach ((Cs.cons a r).toE Γ.tab) env))) (fun vs s₁ => wpAny (model Γ.prog Γ.w) A (call (.type id) vs) Q E s₁) E s) :
    wpAny (model Γ.prog Γ.w) A (eval (.Call (.Name x pf) ((Cs.cons a r).toE Γ.tab) [] p) env) Q E s := by
  refine Call_Name rfl (nameB ok.B cx hx hb hv hn hd (PyProof.Rows.callWith_type (back_plain _ _ _ _) ?_))
  rw [back_cons] at h ⊢
  exact Calls.evalArgs_plain h

theorem ses_one (ha : SE Γ kinds a) (hx : ev Γ.tab Γ.G a ρ = some da) (ao : AOk Γ.lvl A) (cx : Cx Γ.tab Γ.h₁ A env kinds ρ f Av s) {p : Pos} {Q : List Value → Shared → Prop}
    (h : ∀ v s₁ f₁, KeepS A s s₁ → Ext f f₁ → Cx Γ.tab Γ.h₁ A env kinds ρ f₁ Av s₁ → Rd f₁ Av s₁.heap v da → Q [v] s₁) :
    wpAny (model Γ.prog Γ.w) A (spliced (backTo p (starEach ((Cs.cons a .nil).toE Γ.tab) env))) Q E s := by
  rw [back_cons]
  exact Calls.spliced_cons (one ha hx ao cx fun v s₁ f₁ k ex cx₁ r => Calls.spliced_nil (h v s₁ f₁ k ex cx₁ r))
theorem ses_two (ha : SE Γ kinds a) (hb : SE Γ kinds b) (hx : ev Γ.tab Γ.G a ρ = some da) (hy : ev Γ.tab Γ.G b ρ = some db) (ao : AOk Γ.lvl A) (cx : Cx Γ.tab Γ.h₁ A env kinds ρ f Av s) {p : Pos} {Q : List Value → Shared → Prop}
    (h : ∀ v u s₁ f₁, KeepS A s s₁ → Ext f f₁ → Cx Γ.tab Γ.h₁ A env kinds ρ f₁ Av s₁ → Rd f₁ Av s₁.heap v da → Rd f₁ Av s₁.heap u db → Q [v, u] s₁) :
    wpAny (model Γ.prog Γ.w) A (spliced (backTo p (starEach ((Cs.cons a (.cons b .nil)).toE Γ.tab) env))) Q E s := by
  rw [back_cons, back_cons]
  exact Calls.spliced_cons (wpAny_mono (two ha hb hx hy ao cx (Q := fun v u s₁ => Q [v, u] s₁) h) (fun v s₁ h₁ => Calls.spliced_cons (wpAny_mono h₁ (fun u s₂ h₂ => Calls.spliced_nil h₂) fun _ _ q => q)) fun _ _ q => q)

theorem se_sum (ok : Γ.Ok) {pf p : Pos} (hx : kinds.lookup ("sum" : Str) = some .globalImplicit) (ha : SE Γ kinds a) : SE Γ kinds (.sum a pf p) := fun ρ d h A env s f Av E ao cx => by
  simp only [ev_e1, ev_e2, ev_e3, ev_e4, ev_e5, ev_e6, ev_e7, ev_e8, ev_e9, ev_e10, ev_e11, ev_e12, ev_e13, ev_e14, ev_e15, ev_e16, ev_e17, ev_e18, ev_e19, ev_e20, ev_e21, ev_e22, ev_e23, ev_e24, ev_e25, ev_e26, ev_e27, ev_e28] at h
  obtain ⟨x, hxa, h⟩ := Option.bind_eq_some_iff.mp h
  exact call_builtin_args (r := .nil) ok cx hx (by unfold isBuiltinName; simp) boot_sum' (by decide) (by decide)
    (ses_one ha hxa ao cx fun v s₁ f₁ k ex cx₁ r => fin k ex (sum_sound h ao.handled cx₁.wd r))
theorem se_len (ok : Γ.Ok) {pf p : Pos} (hx : kinds.lookup ("len" : Str) = some .globalImplicit) (ha : SE Γ kinds a) : SE Γ kinds (.len a pf p) := fun ρ d h A env s f Av E ao cx => by
  simp only [ev_e1, ev_e2, ev_e3, ev_e4, ev_e5, ev_e6, ev_e7, ev_e8, ev_e9, ev_e10, ev_e11, ev_e12, ev_e13, ev_e14, ev_e15, ev_e16, ev_e17, ev_e18, ev_e19, ev_e20, ev_e21, ev_e22, ev_e23, ev_e24, ev_e25, ev_e26, ev_e27, ev_e28] at h
  obtain ⟨x, hxa, h⟩ := Option.bind_eq_some_iff.mp h
  exact call_builtin_args (r := .nil) ok cx hx (by unfold isBuiltinName; simp) boot_len' (by decide) (by decide)
    (ses_one ha hxa ao cx fun v s₁ f₁ k ex cx₁ r => fin k ex (len_sound h cx₁.wd r))
noncomputable def isStrC : C → Bool
  | .str .. => true
  | _ => false
theorem se_join {pm p : Pos} (hs : isStrC a = true) (hline : (pm.endLine == p.line) = true) (ha : SE Γ kinds a) (hb : SE Γ kinds b) : SE Γ kinds (.join a b pm p) := fun ρ d h A env s f Av E ao cx => by
  simp only [ev_e1, ev_e2, ev_e3, ev_e4, ev_e5, ev_e6, ev_e7, ev_e8, ev_e9, ev_e10, ev_e11, ev_e12, ev_e13, ev_e14, ev_e15, ev_e16, ev_e17, ev_e18, ev_e19, ev_e20, ev_e21, ev_e22, ev_e23, ev_e24, ev_e25, ev_e26, ev_e27, ev_e28] at h
  obtain ⟨x, hxa, h⟩ := Option.bind_eq_some_iff.mp h
  obtain ⟨y, hyb, h⟩ := Option.bind_eq_some_iff.mp h
  refine wpAny_Call_method (T := "str") (id := "str.join") (by cases a <;> first | rfl | cases hs) (by cases b <;> rfl) hline F.plainAttrs_str F.slot_str_join F.type_str_join ?_
  refine one ha hxa ao cx fun v s₁ f₁ k ex cx₁ r => ?_
  have hstr : ∃ z t, v = .str z t := by
    cases a <;> first | (cases hs; done) | skip
    cases hxa
    obtain ⟨t, rfl, _⟩ := r; exact ⟨_, t, rfl⟩
  obtain ⟨z, t, rfl⟩ := hstr
  refine ⟨typeIs_str _ _ _, (fun a e => nomatch e), Calls.callWith_builtin (back_plain Γ.tab p env (.cons b .nil)) ?_⟩
  have e : backTo p (starEach [b.toE Γ.tab] env) = [(false, eval (b.toE Γ.tab) env)] := back_cons Γ.tab b .nil p env
  rw [e]
  refine Calls.evalArgs_plain (Calls.spliced_cons (one hb hyb ao cx₁ fun u s₂ f₂ k₂ ex₂ cx₂ r₂ => Calls.spliced_nil ?_))
  exact fin (k.trans k₂) (ex.trans ex₂) (join_sound h cx₂.wd (r.keep k₂.keep ex₂) r₂)
theorem se_index {pm p : Pos} (hs : isStrC a = true) (hline : (pm.endLine == p.line) = true) (ha : SE Γ kinds a) (hb : SE Γ kinds b) : SE Γ kinds (.index a b pm p) := fun ρ d h A env s f Av E ao cx => by
  simp only [ev_e1, ev_e2, ev_e3, ev_e4, ev_e5, ev_e6, ev_e7, ev_e8, ev_e9, ev_e10, ev_e11, ev_e12, ev_e13, ev_e14, ev_e15, ev_e16, ev_e17, ev_e18, ev_e19, ev_e20, ev_e21, ev_e22, ev_e23, ev_e24, ev_e25, ev_e26, ev_e27, ev_e28] at h
  obtain ⟨x, hxa, h⟩ := Option.bind_eq_some_iff.mp h
  obtain ⟨y, hyb, h⟩ := Option.bind_eq_some_iff.mp h
  refine wpAny_Call_method (T := "str") (id := "str.index") (by cases a <;> first | rfl | cases hs) (by cases b <;> rfl) hline F.plainAttrs_str F.slot_str_index F.type_str_index ?_
  refine one ha hxa ao cx fun v s₁ f₁ k ex cx₁ r => ?_
  have hstr : ∃ z t, v = .str z t := by
    cases a <;> first | (cases hs; done) | skip
    cases hxa
    obtain ⟨t, rfl, _⟩ := r; exact ⟨_, t, rfl⟩
  obtain ⟨z, t, rfl⟩ := hstr
  refine ⟨typeIs_str _ _ _, (fun a e => nomatch e), Calls.callWith_builtin (back_plain Γ.tab p env (.cons b .nil)) ?_⟩
  have e : backTo p (starEach [b.toE Γ.tab] env) = [(false, eval (b.toE Γ.tab) env)] := back_cons Γ.tab b .nil p env
  rw [e]
  refine Calls.evalArgs_plain (Calls.spliced_cons (one hb hyb ao cx₁ fun u s₂ f₂ k₂ ex₂ cx₂ r₂ => Calls.spliced_nil ?_))
  exact fin (k.trans k₂) (ex.trans ex₂) (index_sound h cx₂.wd (r.keep k₂.keep ex₂) r₂)

theorem se_call (ok : Γ.Ok) {i : Nat} {r : Cs} {pf p : Pos} (hx : kinds.lookup (Γ.tab i) = some .globalImplicit) (h : SEs Γ kinds (.cons a r)) : SE Γ kinds (.call i (.cons a r) pf p) := fun ρ d hd A env s f Av E ao cx => by
  simp only [ev_e1, ev_e2, ev_e3, ev_e4, ev_e5, ev_e6, ev_e7, ev_e8, ev_e9, ev_e10, ev_e11, ev_e12, ev_e13, ev_e14, ev_e15, ev_e16, ev_e17, ev_e18, ev_e19, ev_e20, ev_e21, ev_e22, ev_e23, ev_e24, ev_e25, ev_e26, ev_e27, ev_e28] at hd
  obtain ⟨ds, hds, hd⟩ := Option.bind_eq_some_iff.mp hd
  obtain ⟨addr, fd, o, hm, ho, hod, hcall⟩ := ok.call i ds d hd
  refine Call_Name rfl (nameG ok.B cx hx hm (ok.T.dbg i) (Calls.callWith_function (o := o) (fd := fd) ?_))
  have hs := h ρ ds hds A env s f Av E p ao cx
  rw [back_cons] at hs ⊢
  refine Calls.evalArgs_plain (wpAny_mono hs (fun vs s₁ ⟨k, f₁, ex, wd, r⟩ => ⟨⟨(cx.keep k ex wd).si.base _ _ ho, hod⟩, ?_⟩) fun _ _ q => q)
  exact fin k ex (hcall A s₁ f₁ Av vs E ao (cx.keep k ex wd).si (cx.keep k ex wd).av wd r)

/-! «is» or «==» -/
theorem isOrEq_parts {i j : Nat} {x y : D} {t : Bool} (ok : Γ.Ok) (ao : AOk Γ.lvl A) (hx : ρ i = some x) (hy : ρ j = some y) (hk : isKind x y = true) (he : eqD x y = some t)
    (cx : Cx Γ.tab Γ.h₁ A env kinds ρ f Av s) {pi pj : Pos} {Q : Value → Shared → Prop}
    (h : ∀ (c : Bool) s₁ f₁, KeepS A s s₁ → Ext f f₁ → Cx Γ.tab Γ.h₁ A env kinds ρ f₁ Av s₁ → (c = true → t = true) → Q (.bool c) s₁) :
    wpAny (model Γ.prog Γ.w) A (eval (.Name (Γ.tab i) pi) env) (fun v s₁ => wpAny (model Γ.prog Γ.w) A (eval (.Name (Γ.tab j) pj) env) (fun u s₂ => wpAny (model Γ.prog Γ.w) A (compareOp .Is v u) Q E s₂) E s₁) E s := by
  refine two (a := .var i pi) (b := .var j pj) (se_var ok i pi) (se_var ok j pj) hx hy ao cx fun v u s₁ f₁ k ex cx₁ r r' => ?_
  show wpAny _ A (isSame v u >>= fun c => pure (.bool c)) Q E s₁
  have nb : NoneBooked s₁.heap := let ⟨mc, h1, h2⟩ := ok.B.nb; ⟨mc, h1.keeps cx₁.si.base, h2⟩
  refine wpAny_bind (isSame_any nb r r' hk fun c hc => wpAny_pure (h c s₁ f₁ k ex cx₁ fun q => ?_))
  unfold eqD at he
  split at he
  · cases he
    rw [← hc q]
    exact SeqAt.eqv_refl _ (Rd.reads _ r).1
  · cases he
theorem eq_names {i j : Nat} {x y : D} {t : Bool} (ok : Γ.Ok) (ao : AOk Γ.lvl A) (hx : ρ i = some x) (hy : ρ j = some y) (he : eqD x y = some t) (cx : Cx Γ.tab Γ.h₁ A env kinds ρ f Av s) {pi pj : Pos} {Q : Value → Shared → Prop}
    (h : ∀ v u s₁ f₁, KeepS A s s₁ → Ext f f₁ → Cx Γ.tab Γ.h₁ A env kinds ρ f₁ Av s₁ → wpAny (model Γ.prog Γ.w) A (compareOp .Eq v u) (Got A f₁ Av s₁ (.bool t)) E s₁ → wpAny (model Γ.prog Γ.w) A (compareOp .Eq v u) Q E s₁) :
    wpAny (model Γ.prog Γ.w) A (eval (.Name (Γ.tab i) pi) env) (fun v s₁ => wpAny (model Γ.prog Γ.w) A (eval (.Name (Γ.tab j) pj) env) (fun u s₂ => wpAny (model Γ.prog Γ.w) A (compareOp .Eq v u) Q E s₂) E s₁) E s :=
  two (a := .var i pi) (b := .var j pj) (se_var ok i pi) (se_var ok j pj) hx hy ao cx fun v u s₁ f₁ k ex cx₁ r r' => h v u s₁ f₁ k ex cx₁ (eq_sound he ao.room cx₁.wd r r')
theorem se_isOrEq (ok : Γ.Ok) {i j : Nat} {pi pj qi qj p1 p2 p : Pos} : SE Γ kinds (.isOrEq i j pi pj qi qj p1 p2 p) := fun ρ d h A env s f Av E ao cx => by
  simp only [ev_e1, ev_e2, ev_e3, ev_e4, ev_e5, ev_e6, ev_e7, ev_e8, ev_e9, ev_e10, ev_e11, ev_e12, ev_e13, ev_e14, ev_e15, ev_e16, ev_e17, ev_e18, ev_e19, ev_e20, ev_e21, ev_e22, ev_e23, ev_e24, ev_e25, ev_e26, ev_e27, ev_e28] at h
  obtain ⟨x, hx, h⟩ := Option.bind_eq_some_iff.mp h
  obtain ⟨y, hy, h⟩ := Option.bind_eq_some_iff.mp h
  split at h
  · rename_i hk
    obtain ⟨t, he, rfl⟩ := Option.map_eq_some_iff.mp h
    refine wpAny_Or2 (wpAny_Compare1 (isOrEq_parts ok ao hx hy hk he cx fun c s₁ f₁ k ex cx₁ hc => wpAny_truthy_bool ?_) rfl)
    cases c with
    | true => rw [hc rfl]; exact (Got.bool .refl cx₁.wd (Nat.le_refl _)).trans k ex
    | false => exact wpAny_Compare1 (eq_names ok ao hx hy he cx₁ fun v u s₂ f₂ k₂ ex₂ cx₂ hq => fin (k.trans k₂) (ex.trans ex₂) hq) rfl
  · cases h
theorem sb_isOrEq (ok : Γ.Ok) {i j : Nat} {pi pj qi qj p1 p2 p : Pos} : SB Γ kinds (.isOrEq i j pi pj qi qj p1 p2 p) := fun ρ z h A env s f Av E ao cx => by
  have h := boolOf_inv h
  simp only [ev_e1, ev_e2, ev_e3, ev_e4, ev_e5, ev_e6, ev_e7, ev_e8, ev_e9, ev_e10, ev_e11, ev_e12, ev_e13, ev_e14, ev_e15, ev_e16, ev_e17, ev_e18, ev_e19, ev_e20, ev_e21, ev_e22, ev_e23, ev_e24, ev_e25, ev_e26, ev_e27, ev_e28] at h
  obtain ⟨x, hx, h⟩ := Option.bind_eq_some_iff.mp h
  obtain ⟨y, hy, h⟩ := Option.bind_eq_some_iff.mp h
  split at h
  · rename_i hk
    obtain ⟨t, he, hz⟩ := Option.map_eq_some_iff.mp h
    cases hz
    refine wpAny_isTrue_BoolOp (wpAny_allTrue_Or_cons (wpAny_isTrue_Compare1 (isOrEq_parts ok ao hx hy hk he cx fun c s₁ f₁ k ex cx₁ hc => wpAny_truthy_bool ?_) rfl))
    cases c with
    | true => rw [hc rfl]; exact ⟨rfl, k, f₁, ex, cx₁.wd⟩
    | false =>
      refine wpAny_allTrue_Or_cons (wpAny_isTrue_Compare1 (eq_names ok ao hx hy he cx₁ fun v u s₂ f₂ k₂ ex₂ cx₂ hq => ?_) rfl)
      refine wpAny_mono (truth_of hq) (fun v s₃ hv => wpAny_mono hv (fun e s₄ ⟨q, k', f', ex', wd⟩ => ?_) fun _ _ q => q) fun _ _ q => q
      subst q
      have fin' : GotB A f s e e s₄ := ⟨rfl, (k.trans k₂).trans k', f', (ex.trans ex₂).trans ex', wd⟩
      cases e with
      | true => exact fin'
      | false => exact wpAny_allTrue_Or_nil fin'
  · cases h

theorem notL_parts (ok : Γ.Ok) (ao : AOk Γ.lvl A) {i : Nat} {d : D} (h : (match ρ i with | some (.list xs) => if xs.length ≤ lim then some (D.bool xs.isEmpty) else none | _ => none) = some d) (cx : Cx Γ.tab Γ.h₁ A env kinds ρ f Av s) {pi : Pos} {Q : Bool → Shared → Prop}
    (hQ : ∀ b s₁ f₁, d = .bool (!b) → KeepS A s s₁ → Ext f f₁ → Cx Γ.tab Γ.h₁ A env kinds ρ f₁ Av s₁ → Q b s₁) :
    wpAny (model Γ.prog Γ.w) A (eval (.Name (Γ.tab i) pi) env) (fun v s₁ => wpAny (model Γ.prog Γ.w) A (truthy v) Q E s₁) E s := by
  split at h
  · rename_i xs hx
    split at h
    · rename_i hsz
      cases h
      refine wpAny_mono (var_sound ok.T cx hx) (fun v s₁ ⟨k, f₁, ex, wd, r⟩ => ?_) fun _ _ q => q
      have cx₁ := cx.keep k ex wd
      obtain ⟨l, its, rfl, _, hl, r⟩ := r
      have hlen := r.length
      rw [Array.length_toList] at hlen
      have hlim : ((lim : Nat) : Int) = 1000000 := rfl
      refine wpAny_truthy_list hl (by omega) (hQ _ _ f₁ ?_ (k.trans .tok) ex (cx₁.keep .tok (.refl _) (cx₁.wd.mono (by dsimp only; omega))))
      rw [Bool.not_not]
      cases xs with
      | nil =>
        have e : its = #[] := by simpa using hlen
        subst e; rfl
      | cons x xs =>
        have : its.isEmpty = false := by
          cases h : its.isEmpty with
          | false => rfl
          | true => rw [Array.isEmpty_iff_size_eq_zero] at h; rw [h] at hlen; cases hlen
        rw [this]; rfl
    · cases h
  · cases h
theorem se_notL (ok : Γ.Ok) {i : Nat} {pi p : Pos} : SE Γ kinds (.notL i pi p) := fun ρ d h A env s f Av E ao cx => by
  simp only [ev_e1, ev_e2, ev_e3, ev_e4, ev_e5, ev_e6, ev_e7, ev_e8, ev_e9, ev_e10, ev_e11, ev_e12, ev_e13, ev_e14, ev_e15, ev_e16, ev_e17, ev_e18, ev_e19, ev_e20, ev_e21, ev_e22, ev_e23, ev_e24, ev_e25, ev_e26, ev_e27, ev_e28] at h
  refine wpAny_UnaryOp (wpAny_mono (notL_parts (E := E) (pi := pi) ok ao h cx (Q := fun b s₁ => Got A f Av s d (.bool (!b)) s₁) fun b s₁ f₁ hd k ex cx₁ => ?_) (fun v s₁ hv => PyProof.Rows.not_of hv) fun _ _ q => q)
  rw [hd]; exact (Got.bool .refl cx₁.wd (Nat.le_refl _)).trans k ex
theorem sb_notL (ok : Γ.Ok) {i : Nat} {pi p : Pos} : SB Γ kinds (.notL i pi p) := fun ρ t h A env s f Av E ao cx => by
  have h := boolOf_inv h
  simp only [ev_e1, ev_e2, ev_e3, ev_e4, ev_e5, ev_e6, ev_e7, ev_e8, ev_e9, ev_e10, ev_e11, ev_e12, ev_e13, ev_e14, ev_e15, ev_e16, ev_e17, ev_e18, ev_e19, ev_e20, ev_e21, ev_e22, ev_e23, ev_e24, ev_e25, ev_e26, ev_e27, ev_e28] at h
  refine wpAny_isTrue_Not (wpAny_isTrue_value (notL_parts (E := E) (pi := pi) ok ao h cx fun b s₁ f₁ hd k ex cx₁ => ?_))
  cases hd
  exact ⟨rfl, k, f₁, ex, cx₁.wd⟩
end
end Mine
end

section
namespace Mine
open PySem PySem.W PyProof.Rows

mutual
theorem Rd.more {f : TokMap} {Av Av' : Addr → Prop} {h : Heap} (q : ∀ a, Av' a → Av a ∨ h.get? a = none) : ∀ (d : D) {v : Value}, Rd f Av h v d → Rd f Av' h v d
  | .none, _, r => r
  | .bool _, _, r => r
  | .int _, _, r => r
  | .raw _, _, r => r
  | .str _, _, r => r
  | .list ds, _, ⟨a, its, p, n, l, r⟩ => ⟨a, its, p, (fun y => (q a y).elim n fun e => by obtain ⟨o, ho, _⟩ := l; rw [e] at ho; cases ho), l, RdAll.more q ds r⟩
  | .tuple ds, _, ⟨a, its, p, l, r⟩ => ⟨a, its, p, l, RdAll.more q ds r⟩
theorem RdAll.more {f : TokMap} {Av Av' : Addr → Prop} {h : Heap} (q : ∀ a, Av' a → Av a ∨ h.get? a = none) : ∀ (ds : List D) {vs : List Value}, RdAll f Av h vs ds → RdAll f Av' h vs ds
  | [], _, r => r
  | d :: ds, _, ⟨v, ws, p, r, z⟩ => ⟨v, ws, p, Rd.more q d r, RdAll.more q ds z⟩
end

/-- an iterator stands, fresh, over the data -/
noncomputable def ItOk (prog : Program) (w : World) (A : Around) (target : Expr) (f : TokMap) (Av : Addr → Prop) (s : Shared) (ds : List D) (v : Value) (s₂ : Shared) : Prop :=
  KeepS A s s₂ ∧ ∃ (I : Addr) (fp : List Addr) (f' : TokMap), v = .ref I ∧ Ext f f' ∧ Wd f' s₂.toks ∧ (∀ b ∈ fp, (∃ o, s₂.heap.get? b = some o) ∧ s.heap.get? b = none) ∧
    ∀ Av' : Addr → Prop, (∀ a, Av' a → Av a ∨ s₂.heap.get? a = none) → ∃ St, Itr prog w A target Av' I fp ds St ∧ St 0 s₂.heap f'

noncomputable def isEnumIt : It → Bool
  | .enum .. => true
  | _ => false
noncomputable def SIt (Γ : Ctxt) (kinds : List (Str × NameKind)) (it : It) : Prop := ∀ (ρ : Vw) (ds : List D), evIt Γ.tab Γ.G it ρ = some ds → ∀ (A : Around) (env : Env) (s : Shared) (f : TokMap) (Av : Addr → Prop) (E : Value → Shared → Prop) (target : Expr),
  (isEnumIt it = true → ∃ elts k p, target = .Tuple elts k p) → AOk Γ.lvl A → Cx Γ.tab Γ.h₁ A env kinds ρ f Av s →
  wpAny (model Γ.prog Γ.w) A (eval (it.toE Γ.tab) env) (fun x s₁ => wpAny (model Γ.prog Γ.w) A (pyIter x) (ItOk Γ.prog Γ.w A target f Av s ds) E s₁) E s

section
variable {Γ : Ctxt} {kinds : List (Str × NameKind)} {A : Around} {env : Env} {s s₁ s₂ : Shared} {f f₁ f₂ : TokMap} {Av : Addr → Prop} {E : Value → Shared → Prop} {ρ : Vw} {a b c : C} {da db d : D}

theorem size_none (h : Heap) {b : Addr} (hb : h.objs.size ≤ b) : h.get? b = none := by
  cases e : h.get? b with
  | none => rfl
  | some o => exact absurd (Heap.lt_size e) (Nat.not_lt.mpr hb)
theorem keepS_none (k : KeepS A s s₁) {b : Addr} (h : s₁.heap.get? b = none) : s.heap.get? b = none := by
  cases e : s.heap.get? b with
  | none => rfl
  | some o => obtain ⟨o', e', _⟩ := k.keep b o (fun q => q) e; rw [h] at e'; cases e'

/-- a new iterator of one object -/
theorem itOk_new {prog : Program} {w : World} {target : Expr} {ds : List D} {I : Addr} (k : KeepS A s s₁) (ex : Ext f f₁) (wd : Wd f₁ s₁.toks) (h' : Heap) (hk : ∀ b o, s₁.heap.get? b = some o → h'.get? b = some o)
    (fp : List Addr) (hfp : ∀ b ∈ fp, (∃ o, h'.get? b = some o) ∧ s₁.heap.get? b = none)
    (h : ∀ Av' : Addr → Prop, (∀ a, Av' a → Av a ∨ h'.get? a = none) → ∃ St, Itr prog w A target Av' I fp ds St ∧ St 0 h' f₁) : ItOk prog w A target f Av s ds (.ref I) { s₁ with heap := h' } :=
  ⟨k.trans ⟨h', s₁.toks, rfl, .of_all hk⟩, I, fp, f₁, rfl, ex, wd, fun b hb => ⟨(hfp b hb).1, keepS_none k (hfp b hb).2⟩, h⟩

theorem sit_list_part {prog : Program} {w : World} {target : Expr} {v : Value} {xs : List D} (hh : A.handled = none) (k : KeepS A s s₁) (ex : Ext f f₁) (wd : Wd f₁ s₁.toks) (r : Rd f₁ Av s₁.heap v (.list xs)) :
    wpAny (model prog w) A (pyIter v) (ItOk prog w A target f Av s xs) E s₁ := by
  obtain ⟨l, its, rfl, hn, hl, r⟩ := r
  refine wpAny_pyIter_list hl (itOk_new k ex wd _ (fun b o e => Heap.get?_push_of_some _ e) [s₁.heap.objs.size] (fun b hb => ?_) fun Av' hAv => ?_)
  · rw [List.mem_singleton.mp hb]; exact ⟨⟨_, Heap.get?_push_size _ rfl⟩, size_none _ (Nat.le_refl _)⟩
  · have hl' : (s₁.heap.push { cls := .type "list_iterator", data := .fields #[.ref l, .int 0 0] }).IsList l its := hl.push _
    have hn' : ¬ Av' l := fun q => (hAv l q).elim hn fun e => by obtain ⟨o, ho, _⟩ := hl'; rw [e] at ho; cases ho
    refine ⟨_, itr_list hh hn', ⟨_, Heap.get?_push_size _ rfl, rfl, rfl⟩, hl', ?_⟩
    refine RdAll.more hAv xs (r.keep (A := A) (.of_all fun b o e => Heap.get?_push_of_some _ e) (.refl _))
theorem sit_str_part {prog : Program} {w : World} {target : Expr} {v : Value} {x : Str} (hh : A.handled = none) (k : KeepS A s s₁) (ex : Ext f f₁) (wd : Wd f₁ s₁.toks) (r : Rd f₁ Av s₁.heap v (.str x)) (hx : x.cps.toList.all (· < 128) = true) :
    wpAny (model prog w) A (pyIter v) (ItOk prog w A target f Av s (x.cps.toList.map fun c => .str ⟨#[c]⟩)) E s₁ := by
  obtain ⟨t, rfl, _, _, ok⟩ := r
  refine wpAny_pyIter_ascii (by rw [← Array.all_toList]; exact hx) (itOk_new k ex wd _ (fun b o e => Heap.get?_push_of_some _ e) [s₁.heap.objs.size] (fun b hb => ?_) fun Av' hAv => ?_)
  · rw [List.mem_singleton.mp hb]; exact ⟨⟨_, Heap.get?_push_size _ rfl⟩, size_none _ (Nat.le_refl _)⟩
  · exact ⟨_, itr_str hh ok, _, Heap.get?_push_size _ rfl, rfl, rfl⟩

theorem sit_of (ha : SE Γ kinds a) : SIt Γ kinds (.of a) := fun ρ ds h A env s f Av E target ht ao cx => by
  simp only [evIt_e1, evIt_e2, evIt_e3, evIt_e4] at h
  obtain ⟨x, hx, h⟩ := Option.bind_eq_some_iff.mp h
  refine one ha hx ao cx fun v s₁ f₁ k ex cx₁ r => ?_
  unfold itemsD at h
  split at h
  · split at h
    · cases h; exact sit_list_part ao.handled k ex cx₁.wd r
    · cases h
  · split at h
    · rename_i hc
      cases h
      rw [Bool.and_eq_true] at hc
      exact sit_str_part ao.handled k ex cx₁.wd r hc.1
    · cases h
  · cases h

theorem range_part {prog : Program} {w : World} {target : Expr} {x y : Int} {t u v : Tok} {r : Addr} {ds : List D} (hh : A.handled = none) (h : range2I x y = some ds) (k : KeepS A s s₁) (ex : Ext f f₁) (wd : Wd f₁ s₁.toks) (hr : IsRange s₁.heap r x y 1 t u v) :
    wpAny (model prog w) A (pyIter (.ref r)) (ItOk prog w A target f Av s ds) E s₁ := by
  unfold range2I at h
  split at h
  · rename_i hc
    cases h
    have hlim : ((lim : Nat) : Int) = 1000000 := rfl
    obtain ⟨h1, h2, h3, h4⟩ := hc
    refine wpAny_pyIter_range hr (small_one (by omega) (by omega) (by omega) (by omega)) (itOk_new k ex wd _ (fun b o e => Heap.get?_push_of_some _ e) [s₁.heap.objs.size] (fun b hb => ?_) fun Av' hAv => ?_)
    · rw [List.mem_singleton.mp hb]; exact ⟨⟨_, Heap.get?_push_size _ rfl⟩, size_none _ (Nat.le_refl _)⟩
    · refine ⟨_, itr_range hh x (y - x).toNat, ?_⟩
      have e : Builtin.Range.rangeSize x y 1 = ((y - x).toNat : Int) := by rw [rangeSize_one]; split <;> omega
      rw [e]
      simp only [Int.natCast_zero, Int.add_zero, Int.sub_zero]
      exact Heap.get?_push_size _ rfl
  · cases h

theorem sit_range1 (ok : Γ.Ok) {pf p : Pos} (hx : kinds.lookup ("range" : Str) = some .globalImplicit) (ha : SE Γ kinds a) : SIt Γ kinds (.range1 a pf p) := fun ρ ds h A env s f Av E target ht ao cx => by
  simp only [evIt_e1, evIt_e2, evIt_e3, evIt_e4] at h
  obtain ⟨x, hxa, h⟩ := Option.bind_eq_some_iff.mp h
  unfold range1D at h
  obtain ⟨n, hn, h⟩ := Option.bind_eq_some_iff.mp h
  refine call_type_args (r := .nil) ok cx hx (by unfold isBuiltinName; simp) boot_range' (by decide) (by decide)
    (ses_one ha hxa ao cx fun v s₁ f₁ k ex cx₁ r => ?_)
  obtain ⟨t, rfl⟩ := r.num hn
  refine call_range_1 ?_
  exact range_part ao.handled h (k.trans (keep_pushT _ _)) ex (cx₁.wd.mono (by dsimp only; omega)) (IsRange.new _ _ _ _ _ _ _)
theorem sit_range2 (ok : Γ.Ok) {pf p : Pos} (hx : kinds.lookup ("range" : Str) = some .globalImplicit) (ha : SE Γ kinds a) (hb : SE Γ kinds b) : SIt Γ kinds (.range2 a b pf p) := fun ρ ds h A env s f Av E target ht ao cx => by
  simp only [evIt_e1, evIt_e2, evIt_e3, evIt_e4] at h
  obtain ⟨x, hxa, h⟩ := Option.bind_eq_some_iff.mp h
  obtain ⟨y, hyb, h⟩ := Option.bind_eq_some_iff.mp h
  unfold range2D at h
  obtain ⟨n, hn, h⟩ := Option.bind_eq_some_iff.mp h
  obtain ⟨m, hm, h⟩ := Option.bind_eq_some_iff.mp h
  refine call_type_args (r := .cons b .nil) ok cx hx (by unfold isBuiltinName; simp) boot_range' (by decide) (by decide)
    (ses_two ha hb hxa hyb ao cx fun v u s₁ f₁ k ex cx₁ r r' => ?_)
  obtain ⟨t, rfl⟩ := r.num hn
  obtain ⟨t', rfl⟩ := r'.num hm
  refine call_range_2 ?_
  exact range_part ao.handled h (k.trans (keep_pushT _ _)) ex (cx₁.wd.mono (by dsimp only; omega)) (IsRange.new _ _ _ _ _ _ _)
theorem sit_enum (ok : Γ.Ok) {pf p : Pos} (hx : kinds.lookup ("enumerate" : Str) = some .globalImplicit) (ha : SE Γ kinds a) : SIt Γ kinds (.enum a pf p) := fun ρ ds h A env s f Av E target ht ao cx => by
  simp only [evIt_e1, evIt_e2, evIt_e3, evIt_e4] at h
  obtain ⟨x, hxa, h⟩ := Option.bind_eq_some_iff.mp h
  obtain ⟨elts, k0, p0, rfl⟩ := ht rfl
  refine call_type_args (r := .nil) ok cx hx (by unfold isBuiltinName; simp) boot_enum' (by decide) (by decide)
    (ses_one ha hxa ao cx fun v s₁ f₁ k ex cx₁ r => ?_)
  unfold enumD at h
  split at h
  · split at h
    · cases h
      obtain ⟨l, its, rfl, hn, hl, r⟩ := r
      refine call_enumerate_list hl fun h' he hit hsz hk => wpAny_pyIter_enum he (itOk_new k ex cx₁.wd h' hk [s₁.heap.objs.size + 1, s₁.heap.objs.size] (fun b hb => ?_) fun Av' hAv => ?_)
      · rcases List.mem_cons.mp hb with rfl | hb
        · exact ⟨⟨_, he⟩, size_none _ (Nat.le_succ _)⟩
        · rw [List.mem_singleton.mp hb]
          obtain ⟨o, ho, _⟩ := hit
          exact ⟨⟨o, ho⟩, size_none _ (Nat.le_refl _)⟩
      · have hl' : h'.IsList l its := let ⟨o, ho, x⟩ := hl; ⟨o, hk _ _ ho, x⟩
        have hn' : ¬ Av' l := fun q => (hAv l q).elim hn fun e => by obtain ⟨o, ho, _⟩ := hl'; rw [e] at ho; cases ho
        exact ⟨_, itr_enum ao.handled hn' (Nat.ne_of_gt (Nat.lt_succ_self _)), ⟨⟨.none, he⟩, hit, hl', RdAll.more hAv _ (r.keep (A := A) (.of_all hk) (.refl _))⟩⟩
    · cases h
  · cases h
end
end Mine
end

section
namespace Mine
open PySem PySem.W PyProof.Rows

noncomputable def Gs.targets : Gs → List Nat
  | .done => []
  | .gen t _ _ r => t.is ++ r.targets
noncomputable def isTup : Tgt → Bool
  | .tup .. => true
  | _ => false
noncomputable def SGs (Γ : Ctxt) (kinds : List (Str × NameKind)) (sc : Scope) : Gs → Prop
  | .done => True
  | .gen t it ifs r => SIt Γ kinds it ∧ SIfs Γ kinds ifs ∧ (isEnumIt it = true → isTup t = true) ∧ (∀ i ∈ t.is, ownName sc (Γ.tab i) = true ∧ storable kinds (Γ.tab i) = true) ∧ (∀ i ∈ t.is, i ∉ r.targets) ∧ SGs Γ kinds sc r

noncomputable def actOf (tab : Nat → Str) (e elt : Expr) : Gs → Nat → Value → Env → Sem Unit
  | .done, _, acc, env => actLast elt acc env
  | .gen _ it _ _, depth, acc, env => actMore e (it.toE tab) depth acc env

theorem fold_pure (tab : Nat → Str) (it : It) (env : Env) (x : Value) : foldedSetIterable (it.toE tab) env x = pure x := by
  cases it with
  | of a => cases a <;> rfl
  | _ => rfl
theorem drop_get {α : Type} {l : List α} {n : Nat} {x : α} {r : List α} (h : l.drop n = x :: r) : l[n]? = some x ∧ l.drop (n + 1) = r := by
  constructor
  · rw [← List.head?_drop, h]; rfl
  · rw [← List.tail_drop, h]; rfl
theorem drop_nil {α : Type} {l : List α} {n : Nat} (h : l.drop n = []) : l[n]? = none := by rw [← List.head?_drop, h]; rfl

theorem turn_of {tab : Nat → Str} {elt : Expr} {gens : List Comprehension} {sc : Scope} {pos : Pos} {depth : Nat} {t : Tgt} {it : It} {ifs : Cs} {r : Gs} (h : gens.drop depth = (Gs.gen t it ifs r).toE tab) (v acc : Value) (env : Env) :
    compTurn (.ListComp elt gens sc pos) depth v acc env = turnOf (.ListComp elt gens sc pos) (t.toE tab) (it.toE tab) (ifs.toE tab) (actOf tab (.ListComp elt gens sc pos) elt r depth acc env) depth v acc env := by
  obtain ⟨h1, h2⟩ := drop_get (show gens.drop depth = ⟨t.toE tab, it.toE tab, ifs.toE tab, 0⟩ :: r.toE tab from h)
  cases r with
  | done => exact compTurn_last h1 (drop_nil h2)
  | gen t' it' ifs' r' => exact compTurn_more h1 (drop_get (show gens.drop (depth + 1) = ⟨t'.toE tab, it'.toE tab, ifs'.toE tab, 0⟩ :: r'.toE tab from h2)).1

section
variable {Γ : Ctxt} {kinds : List (Str × NameKind)} {A : Around} {env : Env} {f f₁ f₂ : TokMap} {Av : Addr → Prop} {E : Value → Shared → Prop} {ρ : Vw} {sc : Scope} {dst : Addr}

theorem act_last {elt : C} (helt : SE Γ kinds elt) (ao : AOk Γ.lvl A) (hD : Γ.h₁.get? dst = none) (hAv : Av dst) {bs : List D} (h : ((ev Γ.tab Γ.G elt ρ).map fun x => [x]) = some bs) :
    ActOk Γ.prog Γ.w A Γ.tab Γ.h₁ env kinds Av (WB sc env dst) dst (actLast (elt.toE Γ.tab) (.ref dst) env) ρ bs := by
  intro s f its es cx hl r hsz E Q hQ
  obtain ⟨d, hd, rfl⟩ := Option.map_eq_some_iff.mp h
  unfold actLast
  refine wpAny_bind (withToks (one helt hd ao cx fun v s₁ f₁ k ex cx₁ rv => fun ht => ?_))
  obtain ⟨h₁', tk₁, rfl, kk⟩ := k
  have hl₁ : PlainL h₁' dst its := plKeep hl kk fun q => q.elim
  have hlen := r.length
  rw [Array.length_toList] at hlen
  refine wpAny_bind (list_append_plainL (s := { s with heap := h₁', toks := tk₁ }) hl₁ (fun h' hl' hs' => wpAny_pure ?_) ?_)
  · have kD : KeepX A (fun b => b = dst) h₁' h' := .of_but fun b o n e => hs'.extBut b o n e
    have wg : WGood Γ.h₁ Av (fun b => b = dst) h₁' h' := fun b hb => by
      subst hb
      obtain ⟨o, e1, c1, n1, d1⟩ := hl₁.isList
      obtain ⟨o', e2, c2, n2, d2⟩ := hl'.isList
      exact ⟨hD, .inr ⟨hAv, ⟨o, _, _, e1, c1, d1⟩, o', _, _, e2, c2, d2⟩⟩
    refine hQ h' tk₁ f₁ (its.push v) ht ex ((KeepX.of_keep kk).trans (kD.weaken fun b o e q => .inl q)) (Cx.keepG (s := { s with heap := h₁', toks := tk₁ }) cx₁ kD wg (.refl f₁) cx₁.wd) hl' ?_
    rw [Array.toList_push]
    exact RdAll.append (.one (Rd.keepX kD wg.clear (.refl f₁) d rv)) (RdAll.keepX kD wg.clear (.refl f₁) es (r.keep kk ex))
  · have := lim_le
    rw [List.length_append] at hsz
    omega

theorem base_none {h₁ h : Heap} (si : SI h₁ A h) {b : Addr} (e : h.get? b = none) : h₁.get? b = none := by
  cases q : h₁.get? b with
  | none => rfl
  | some o => rw [si.base b o q] at e; cases e

theorem isTup_toE {t : Tgt} {tab : Nat → Str} (h : isTup t = true) : ∃ elts k p, t.toE tab = .Tuple elts k p := by
  cases t with
  | one i p => cases h
  | tup is p => exact ⟨_, _, _, rfl⟩

/-- the loop over a clause, its iterator being made -/
theorem clause_sound (ok : Γ.Ok) (ao : AOk Γ.lvl A) {elt : Expr} {gens : List Comprehension} {pos : Pos} {depth : Nat} {t : Tgt} {it : It} {ifs : Cs} {r : Gs} (hg : gens.drop depth = (Gs.gen t it ifs r).toE Γ.tab)
    (h2 : SIfs Γ kinds ifs) (h4 : ∀ i ∈ t.is, ownName sc (Γ.tab i) = true ∧ storable kinds (Γ.tab i) = true) (h5 : ∀ i ∈ t.is, i ∉ r.targets) (hAv : Av dst) {F : Vw → Option (List D)} {s : Shared}
    (hact : ∀ ρ' bs, F ρ' = some bs → (∀ i d, ρ' i = some d → i ∉ r.targets) → ActOk Γ.prog Γ.w A Γ.tab Γ.h₁ env kinds Av (WB sc env dst) dst (actOf Γ.tab (.ListComp elt gens sc pos) elt r depth (.ref dst) env) ρ' bs)
    (hρ : ∀ i d, ρ i = some d → i ∉ (Gs.gen t it ifs r).targets)
    {ds bs : List D} (hc : collectM (fun d => (bindT t d ρ).bind fun ρ' => (evIfs Γ.tab Γ.G ifs ρ').bind fun ok => if ok then F ρ' else some []) ds = some bs)
    {I : Addr} {fp : List Addr} (hfp : ∀ b ∈ fp, Γ.h₁.get? b = none ∧ ¬ Av b) {St : Nat → Heap → TokMap → Prop} (itr : Itr Γ.prog Γ.w A (t.toE Γ.tab) Av I fp ds St)
    {its : Array Value} {es : List D} (st : St 0 s.heap f) (cx : Cx Γ.tab Γ.h₁ A env kinds ρ f Av s) (hl : PlainL s.heap dst its) (rr : RdAll f Av s.heap its.toList es) (hsz : (es ++ bs).length ≤ lim)
    {R : Result → Shared → Prop}
    (hR : ∀ h' tk f' its', s.toks ≤ tk → Ext f f' → KeepX A (fun b => WB sc env dst b ∨ b ∈ fp) s.heap h' → Cx Γ.tab Γ.h₁ A env kinds ρ f' Av { s with heap := h', toks := tk } → PlainL h' dst its' → RdAll f' Av h' its'.toList (es ++ bs) → R (.ok .next) { s with heap := h', toks := tk }) :
    codeAny (model Γ.prog Γ.w) A (.compStart (.ListComp elt gens sc pos) depth (.ref I) (.ref dst) env) R s := by
  have loop : codeAny (model Γ.prog Γ.w) A (.compLoop (.ListComp elt gens sc pos) depth (.ref I) (.ref dst) env) R s :=
    loop_sound (sc := sc) ok.T ao.handled (fun it => turn_of hg it (.ref dst) env) rfl rfl rfl h4 hAv hfp (evIfs Γ.tab Γ.G ifs)
      (fun ρ' b s f E Q hb cx hQ => withToks (wpAny_mono (h2 ρ' b hb A env s f Av E ao cx) (fun b' s' ⟨e, ⟨h', tk, e2, k⟩, f', ex, wd⟩ ht => by subst e e2; exact hQ h' tk f' ht ex wd k) fun _ _ q => q))
      F (fun i => i ∈ r.targets) (fun ρ' bs hb hd => hact ρ' bs hb hd) (fun i d hi => fun q => hρ i d hi (List.mem_append_left _ q)) (fun i d hi q => hρ i d hi (List.mem_append_right _ q)) h5 hc itr st cx hl rr hsz hR
  refine codeAny_start (drop_get hg).1 rfl loop (fun E' => itr.self 0 s f _ E' st loop) rfl rfl fun _ => rfl

theorem act_sound (ok : Γ.Ok) (ao : AOk Γ.lvl A) {elt : C} (helt : SE Γ kinds elt) (hD : Γ.h₁.get? dst = none) (hAv : Av dst) {gens : List Comprehension} {pos : Pos} : ∀ (g : Gs) (depth : Nat), gens.drop (depth + 1) = g.toE Γ.tab → SGs Γ kinds sc g →
    ∀ (ρ : Vw) (bs : List D), evGs Γ.tab Γ.G g (ev Γ.tab Γ.G elt) ρ = some bs → (∀ i d, ρ i = some d → i ∉ g.targets) →
    ActOk Γ.prog Γ.w A Γ.tab Γ.h₁ env kinds Av (WB sc env dst) dst (actOf Γ.tab (.ListComp (elt.toE Γ.tab) gens sc pos) (elt.toE Γ.tab) g depth (.ref dst) env) ρ bs
  | .done, depth, hg, hs, ρ, bs, h, hρ => act_last helt ao hD hAv (by simpa [evGs_e1, evGs_e2] using h)
  | .gen t it ifs r, depth, hg, hs, ρ, bs, h, hρ => by
    intro s f its es cx hl rr hsz E Q hQ
    simp only [evGs_e1, evGs_e2] at h
    obtain ⟨ds, hds, hc⟩ := Option.bind_eq_some_iff.mp h
    have hs' := hs
    obtain ⟨h1, h2, h3, h4, h5, h6⟩ := hs'
    show wpAny _ A (actMore _ (it.toE Γ.tab) depth (.ref dst) env) Q E s
    unfold actMore
    refine withToks ?_
    refine wpAny_bind (wpAny_mono (h1 ρ ds hds A env s f Av E (t.toE Γ.tab) (fun q => isTup_toE (h3 q)) ao cx) (fun x s₁ hx => ?_) fun _ _ q => q)
    refine wpAny_bind (wpAny_standAt (wpAny_bind (wpAny_of_eq (fold_pure Γ.tab it env x) (wpAny_bind (wpAny_holding (wpAny_mono hx (fun v s₂ hv => ?_) fun _ _ q => q))))))
    obtain ⟨k, I, fp, f', rfl, ex, wd, hfp, hit⟩ := hv
    obtain ⟨St, itr, st⟩ := hit Av fun a q => .inl q
    have cx₂ := cx.keep k ex wd
    have hl₂ : PlainL s₂.heap dst its := plKeep hl k.keep fun q => q.elim
    have r₂ := rr.keep k.keep ex
    obtain ⟨h₂, tk₂, rfl, kk⟩ := k
    have hfp' : ∀ b ∈ fp, Γ.h₁.get? b = none ∧ ¬ Av b := fun b hb => ⟨base_none cx.si (hfp b hb).2, fun q => by
      obtain ⟨o, e⟩ := cx.av b q
      rw [(hfp b hb).2] at e; cases e⟩
    refine wpAny_bind (wpAny_runOwn (clause_sound (s := { s with heap := h₂, toks := tk₂ }) ok ao hg h2 h4 h5 hAv (fun ρ' bs' hb hd => act_sound ok ao helt hD hAv r (depth + 1) (drop_get hg).2 h6 ρ' bs' hb hd) hρ hc hfp' itr st cx₂ hl₂ r₂ hsz
      (fun h' tk f'' its' t' ex' k' cx' hl' r' => wpAny_pure fun ht => ?_)))
    refine hQ h' tk f'' its' ht (ex.trans ex') ((KeepX.of_keep kk).trans' k' fun b o n e => ?_) cx' hl' r'
    rintro (q | q)
    · exact n q
    · rw [(hfp b q).2] at e; cases e
end
end Mine
end

section
namespace Mine
open PySem PySem.W PyProof.Rows

section
variable {Γ : Ctxt} {kinds : List (Str × NameKind)} {A : Around} {env : Env} {f f₁ f₂ : TokMap} {Av : Addr → Prop} {E : Value → Shared → Prop} {ρ : Vw} {sc : Scope} {dst : Addr}

theorem wfScope_parts (h : wfScope kinds sc = true) : sc.kind = .function ∧ (sc.names.map (·.1)).Nodup ∧ (∀ x ∈ sc.names, x.2 = .free → kinds.lookup x.1 = some .cell ∨ kinds.lookup x.1 = some .free) := by
  unfold wfScope at h
  simp only [Bool.and_eq_true, decide_eq_true_eq, List.all_eq_true] at h
  refine ⟨h.1.1, h.1.2, fun x hx e => ?_⟩
  have := h.2 x hx
  rw [e] at this
  simpa using this

/-- the block's frame stands -/
theorem block_cx {s₂ : Shared} {C : Addr} {H : Heap} (hw : wfScope kinds sc = true) (cx : Cx Γ.tab Γ.h₁ A env kinds ρ f Av s₂) (hd : s₂.heap.get? dst = none) (hd' : ∃ o, H.get? dst = some o) (hk : ∀ b o, s₂.heap.get? b = some o → H.get? b = some o)
    (hC : H.objs.size = C) (qual : Str) (code : Option Addr) :
    Cx Γ.tab Γ.h₁ A { scope := relabel sc env, locals := C, globals := env.globals, cells := cellsFrom (C + 1) sc.names (closL env sc.names []), qual := env.qual, func := none, code := env.code, frame := env.frame, builtins := env.builtins }
      (innerKinds kinds sc) (keepFree Γ.tab sc ρ) f (fun a => Av a ∨ a = dst) { s₂ with heap := pushCells (H.push { cls := .type "dict", data := .dict #[] }) sc.names } := by
  obtain ⟨w1, w2, w3⟩ := wfScope_parts hw
  have hkk : ∀ b o, s₂.heap.get? b = some o → (pushCells (H.push { cls := .type "dict", data := .dict #[] }) sc.names).get? b = some o := fun b o e => pushCells_keeps _ _ _ _ (Heap.get?_push_of_some _ (hk b o e))
  have keep : Keep A s₂.heap (pushCells (H.push { cls := .type "dict", data := .dict #[] }) sc.names) := .of_all hkk
  have hnew : ∀ b, C ≤ b → s₂.heap.get? b = none := fun b hb => by
    cases e : s₂.heap.get? b with
    | none => rfl
    | some o => exact absurd (hC ▸ Heap.lt_size (hk b o e)) (Nat.not_lt.mpr hb)
  have outer : ∀ n, (n, NameKind.free) ∈ sc.names → ∃ c v, env.cells.lookup n = some c ∧ s₂.heap.IsCell c v := fun n hn => by
    refine cx.ok.cells n ?_
    rw [kindOf_eq cx.ok]
    exact w3 _ hn rfl
  have hsize : (H.push { cls := .type "dict", data := .dict #[] }).objs.size = C + 1 := by rw [Heap.size_push, hC]
  have look : ∀ n k, sc.names.lookup n = some k → (innerKinds kinds sc).lookup n = some (if (k == .free && kinds.lookup n == some .cell) then .cell else k) := fun n k e => by
    unfold innerKinds; rw [inner_lookup, e]; rfl
  have freeCell : ∀ n, sc.names.lookup n = some .free → ∃ c v, (cellsFrom (C + 1) sc.names (closL env sc.names [])).lookup n = some c ∧ env.cells.lookup n = some c ∧ s₂.heap.IsCell c v := fun n e => by
    obtain ⟨c, v, h1, h2⟩ := outer n (mem_of_lookup e)
    refine ⟨c, v, ?_, h1, h2⟩
    rw [cellsFrom_lookup_other _ _ _ _ (fun x hx hxn hc => by
      have : sc.names.lookup n = some .cell := by rw [← hxn]; exact lookup_mem w2 (by rw [← hc]; exact hx)
      rw [e] at this; cases this), closL_lookup_free _ _ _ w2 e, h1]
    rfl
  refine ⟨cx.si.keep keep, ⟨?_, ?_, cx.ok.globals, cx.ok.builtins, ⟨fun _ => none, ?_⟩, ?_, ?_⟩, ?_, ?_, ?_, cx.wd, ?_⟩
  · show sc.kind = _; exact w1
  · exact relabel_names sc cx.ok.kind cx.ok.names
  · obtain ⟨o, es, ep, ho, r⟩ := Heap.Ns.new H (.type "dict")
    rw [hC] at ho
    exact ⟨o, es, ep, pushCells_keeps _ _ _ _ ho, r⟩
  · intro n hn
    have hn' : (innerKinds kinds sc).lookup n = some .cell ∨ (innerKinds kinds sc).lookup n = some .free := by
      unfold Env.kindOf at hn
      rw [show ({ scope := relabel sc env, locals := C, globals := env.globals, cells := cellsFrom (C + 1) sc.names (closL env sc.names []), qual := env.qual, func := none, code := env.code, frame := env.frame, builtins := env.builtins } : Env).scope.names = innerKinds kinds sc from relabel_names sc cx.ok.kind cx.ok.names] at hn
      exact hn
    cases e : sc.names.lookup n with
    | none => unfold innerKinds at hn'; rw [inner_lookup, e] at hn'; simp at hn'
    | some k =>
      rw [look n k e] at hn'
      by_cases hf : k = .free
      · subst hf
        obtain ⟨c, v, h1, _, h2⟩ := freeCell n e
        exact ⟨c, v, h1, let ⟨o, ho, hd⟩ := h2; ⟨o, hkk _ _ ho, hd⟩⟩
      · by_cases hc : k = .cell
        · subst hc
          obtain ⟨c, h1, _, h2⟩ := cellsFrom_lookup_own sc.names (H.push { cls := .type "dict", data := .dict #[] }) (closL env sc.names []) n w2 e
          rw [hsize] at h1
          exact ⟨c, none, h1, h2⟩
        · have : (k == NameKind.free) = false := by simpa using hf
          rw [this] at hn'
          simp at hn'
          rcases hn' with h | h
          · exact absurd h hc
          · exact absurd h hf
  · refine cellsFrom_apart _ _ _ (closL_apart (fun n n' c h1 h2 => ?_) _ _ w2 (fun x hx e => ?_) List.Pairwise.nil (fun x hx => absurd hx (by simp))) fun x hx => ?_
    · exact name_of_addr cx.ok.apart (mem_of_lookup h1) (mem_of_lookup h2)
    · obtain ⟨n, k⟩ := x
      have e' : k = .free := e
      subst e'
      obtain ⟨c, v, h1, _⟩ := outer n hx
      exact ⟨c, h1⟩
    · obtain ⟨n, c⟩ := x
      rcases closL_mem _ _ n c hx with h | ⟨h1, h2⟩
      · simp at h
      · obtain ⟨c', v, h3, o, ho, _⟩ := outer n h1
        rw [h3] at h2
        have h2' : c = c' := h2
        have := hC ▸ Heap.lt_size (hk _ _ ho)
        show c < C + 1
        rw [h2']
        exact Nat.lt_succ_of_lt this
  · exact base_none cx.si (hnew C (Nat.le_refl _))
  · intro n c hc
    rcases cellsFrom_mem _ _ _ n c (mem_of_lookup hc) with h | h
    · rcases closL_mem _ _ n c h with h | ⟨h1, h2⟩
      · simp at h
      · obtain ⟨c', v, h3, _⟩ := outer n h1
        rw [h3] at h2
        have h2' : c = c' := h2
        rw [h2']; exact cx.ce n c' h3
    · exact base_none cx.si (hnew c (Nat.le_of_succ_le h))
  · intro a ha
    rcases ha with ha | rfl
    · obtain ⟨o, e⟩ := cx.av a ha; exact ⟨o, hkk _ _ e⟩
    · obtain ⟨o, e⟩ := hd'; exact ⟨o, pushCells_keeps _ _ _ _ (Heap.get?_push_of_some _ e)⟩
  · intro i d hi
    unfold keepFree at hi
    split at hi
    · rename_i hfree
      obtain ⟨v, hv, hr⟩ := cx.rel i d hi
      refine ⟨v, ?_, ?_⟩
      · obtain ⟨c, v', h1, h2, _⟩ := freeCell _ hfree
        rcases hv with ⟨hloc, _⟩ | ⟨_, c', h3, h4⟩
        · rw [kindOf_eq cx.ok] at hloc
          rcases w3 _ (mem_of_lookup hfree) rfl with h | h
          · rw [hloc] at h; cases h
          · rw [hloc] at h; cases h
        · rw [h2] at h3; cases h3
          refine .inr ⟨?_, c, h1, let ⟨o, ho, hd⟩ := h4; ⟨o, hkk _ _ ho, hd⟩⟩
          have hk' := look _ _ hfree
          unfold Env.kindOf
          rw [show ({ scope := relabel sc env, locals := C, globals := env.globals, cells := cellsFrom (C + 1) sc.names (closL env sc.names []), qual := env.qual, func := none, code := env.code, frame := env.frame, builtins := env.builtins } : Env).scope.names = innerKinds kinds sc from relabel_names sc cx.ok.kind cx.ok.names, hk']
          split <;> simp
      · refine (Rd.more (fun a ha => ?_) d hr).keep keep (.refl f)
        exact ha.imp id fun e => by rw [e]; exact hd
    · cases hi

theorem inner_storable {x : Str} (h : ownName sc x = true) : storable (innerKinds kinds sc) x = true := by
  unfold ownName at h
  unfold storable innerKinds
  rw [inner_lookup]
  rw [Bool.or_eq_true] at h
  rcases h with h | h
  · have h' : sc.names.lookup x = some .local := by simpa using h
    rw [h']; rfl
  · have h' : sc.names.lookup x = some .cell := by simpa using h
    rw [h']; rfl

/-- a comprehension's block, with what follows it -/
theorem comp_core (ok : Γ.Ok) (ao : AOk Γ.lvl A) {elt : C} {t : Tgt} {it : It} {ifs : Cs} {r : Gs} {pos pos' : Pos} {s : Shared} (hw : wfScope kinds sc = true) (hit : SIt Γ kinds it) (hen : isEnumIt it = true → isTup t = true) (helt : SE Γ (innerKinds kinds sc) elt)
    (h2 : SIfs Γ (innerKinds kinds sc) ifs) (h4 : ∀ i ∈ t.is, ownName sc (Γ.tab i) = true) (h5 : ∀ i ∈ t.is, i ∉ r.targets) (h6 : SGs Γ (innerKinds kinds sc) sc r) (h7 : ∀ i ∈ r.targets, ownName sc (Γ.tab i) = true) (cx : Cx Γ.tab Γ.h₁ A env kinds ρ f Av s) {ds bs : List D} (hds : evIt Γ.tab Γ.G it ρ = some ds)
    (hc : collectM (fun d => (bindT t d (keepFree Γ.tab sc ρ)).bind fun ρ' => (evIfs Γ.tab Γ.G ifs ρ').bind fun ok => if ok then evGs Γ.tab Γ.G r (ev Γ.tab Γ.G elt) ρ' else some []) ds = some bs) (hsz : bs.length ≤ lim)
    {use : Option (Value → Sem Unit)} {Q : Value → Shared → Prop}
    (hQ : ∀ h' tk f' C dst its, s.toks ≤ tk → Ext f f' → Wd f' tk → Keep A s.heap h' → s.heap.get? C = none → C ≠ dst → (∃ m, h'.Ns C m) → s.heap.get? dst = none → PlainL h' dst its → RdAll f' (fun a => Av a ∨ a = dst) h' its.toList bs →
      compPost (model Γ.prog Γ.w) A E use Q (.ref dst) C (.ok .next) { s with heap := h', toks := tk }) :
    wpAny (model Γ.prog Γ.w) A (comprehension (.ListComp (elt.toE Γ.tab) ((Gs.gen t it ifs r).toE Γ.tab) sc pos) sc env pos' (newList []) false (eval (it.toE Γ.tab) env) use) Q E s := by
  obtain ⟨w1, w2, w3⟩ := wfScope_parts hw
  refine wpAny_comprehension_free (cl := closL env sc.names []) rfl (fun x => fold_pure Γ.tab it env x) (closureFor_eq fun x hx e => ?_) w1 (fun x hx e => ?_) ?_
  · obtain ⟨n, k⟩ := x
    have e' : k = .free := e
    subst e'
    obtain ⟨c, v, h1, _⟩ := cx.ok.cells n (by rw [kindOf_eq cx.ok]; exact w3 _ hx rfl)
    exact ⟨c, h1⟩
  · obtain ⟨n, k⟩ := x
    have e' : k = .local := e
    subst e'
    exact lookup_mem w2 hx
  refine withToks (wpAny_mono (hit ρ ds hds A env s f Av E (t.toE Γ.tab) (fun q => isTup_toE (hen q)) ao cx) (fun x s₁ hx ht₁ => ?_) fun _ _ q => q)
  refine withToks (wpAny_mono hx (fun v s₂ hv ht₂ => ?_) fun _ _ q => q)
  obtain ⟨k, I, fp, f', rfl, ex, wd, hfp, hitr⟩ := hv
  have cx₂ := cx.keep k ex wd
  obtain ⟨hh₂, tk₂, rfl, kk⟩ := k
  have htk : s.toks ≤ tk₂ := Nat.le_trans ht₁ ht₂
  refine wpAny_newObj_type (wpAny_blockEnv ?_)
  dsimp only
  have hnewL : ({ s with heap := hh₂, toks := tk₂ } : Shared).heap.get? hh₂.objs.size = none := size_none _ (Nat.le_refl _)
  generalize hH : hh₂.push { cls := .type "list", dict := none, data := .seq ([] : List Value).toArray } = H
  have hHl : H.get? hh₂.objs.size = some { cls := .type "list", dict := none, data := .seq ([] : List Value).toArray } := by rw [← hH]; exact Heap.get?_push_size _ rfl
  have hHk : ∀ b o, hh₂.get? b = some o → H.get? b = some o := fun b o e => by rw [← hH]; exact Heap.get?_push_of_some _ e
  have cx₃ := block_cx (s₂ := { s with heap := hh₂, toks := tk₂ }) (dst := hh₂.objs.size) (H := H) (C := H.objs.size) hw cx₂ hnewL ⟨_, hHl⟩ hHk rfl env.qual none
  have allK : ∀ b o, hh₂.get? b = some o → (pushCells (H.push { cls := .type "dict", data := .dict #[] }) sc.names).get? b = some o := fun b o e => pushCells_keeps _ _ _ _ (Heap.get?_push_of_some _ (hHk b o e))
  have hl₃ : PlainL (pushCells (H.push { cls := .type "dict", data := .dict #[] }) sc.names) hh₂.objs.size #[] := ⟨_, 0, pushCells_keeps _ _ _ _ (Heap.get?_push_of_some _ hHl), rfl, rfl, rfl⟩
  obtain ⟨St, itr, st⟩ := hitr (fun a => Av a ∨ a = hh₂.objs.size) fun a q => q.imp id fun e => by rw [e]; exact size_none _ (Nat.le_refl _)
  have st₃ : St 0 (pushCells (H.push { cls := .type "dict", data := .dict #[] }) sc.names) f' := by
    refine itr.frame 0 _ _ f' f' NoW st (.refl _) (.of_all (A := A) allK) clear_noW fun b hb => ⟨fun q => q.elim, ?_⟩
    obtain ⟨o, vs, e1, d1⟩ := itr.objs _ _ _ st b hb
    exact notFS_fields cx₂.si e1 d1
  have hnewC : hh₂.get? H.objs.size = none := size_none _ (by rw [← hH, Heap.size_push]; exact Nat.le_succ _)
  have oldNone : ∀ b, hh₂.get? b = none → s.heap.get? b = none := fun b e => by
    cases q : s.heap.get? b with
    | none => rfl
    | some o => obtain ⟨o', e', _⟩ := kk b o (fun q => q) q; rw [e] at e'; cases e'
  have hDC : H.objs.size ≠ hh₂.objs.size := by rw [← hH, Heap.size_push]; exact Nat.ne_of_gt (Nat.lt_succ_self _)
  refine clause_sound (s := { s with heap := pushCells (H.push { cls := .type "dict", data := .dict #[] }) sc.names, toks := tk₂ }) (t := t) (it := it) (ifs := ifs) (r := r) (depth := 0) (sc := sc) (Av := fun a => Av a ∨ a = hh₂.objs.size) (kinds := innerKinds kinds sc) (ρ := keepFree Γ.tab sc ρ)
    (F := fun ρ' => evGs Γ.tab Γ.G r (ev Γ.tab Γ.G elt) ρ') ok ao rfl h2 (fun i hi => ⟨h4 i hi, inner_storable (h4 i hi)⟩) h5 (.inr rfl)
    (fun ρ' bs' hb hd => act_sound ok ao helt (base_none cx₂.si (size_none _ (Nat.le_refl _))) (.inr rfl) r 0 rfl h6 ρ' bs' hb hd) (fun i d hi hmem => ?_) hc (fun b hb => ?_) itr st₃ cx₃ hl₃ (es := []) RdAll.nil (by simpa using hsz) ?_
  · -- the view's names are no targets
    have hown : ownName sc (Γ.tab i) = true := by
      rcases List.mem_append.mp hmem with q | q
      · exact h4 i q
      · exact h7 i q
    unfold keepFree at hi
    split at hi
    · rename_i hfree
      unfold ownName at hown
      rw [hfree] at hown
      cases hown
    · cases hi
  · refine ⟨base_none cx.si (hfp b hb).2, ?_⟩
    rintro (q | q)
    · obtain ⟨o, e⟩ := cx.av b q
      rw [(hfp b hb).2] at e; cases e
    · obtain ⟨⟨o, e⟩, _⟩ := hfp b hb
      exact absurd (Heap.lt_size e) (by rw [q]; exact Nat.lt_irrefl _)
  · intro h' tk f'' its' ht ex' k' cx' hl' r'
    have kAll : Keep A s.heap h' := by
      refine (kk.trans (.of_all allK)).trans' (KeepX.weaken k' (W' := fun b => s.heap.get? b = none) fun b o e q => ?_) (fun b o _ e => by rw [e]; exact fun q => by cases q)
      rcases q with q | q
      · rcases q with rfl | ⟨x, hx, q⟩
        · exact oldNone _ (size_none _ (Nat.le_refl _))
        · rcases q with ⟨_, rfl⟩ | ⟨hkd, hcl⟩
          · exact oldNone _ hnewC
          · have hown : sc.names.lookup x = some .cell := by
              unfold ownName at hx
              rw [Bool.or_eq_true] at hx
              rcases hx with hx | hx
              · have h' : sc.names.lookup x = some .local := by simpa using hx
                rw [kindOf_eq cx₃.ok] at hkd
                unfold innerKinds at hkd
                rw [inner_lookup, h'] at hkd
                cases hkd
              · simpa using hx
            obtain ⟨c, h1, h2', _⟩ := cellsFrom_lookup_own sc.names (H.push { cls := .type "dict", data := .dict #[] }) (closL env sc.names []) x w2 hown
            rw [Heap.size_push] at h1 h2'
            have hcl' : (cellsFrom (H.objs.size + 1) sc.names (closL env sc.names [])).lookup x = some b := hcl
            rw [h1] at hcl'
            cases hcl'
            refine oldNone _ (size_none _ ?_)
            have : H.objs.size = hh₂.objs.size + 1 := by rw [← hH, Heap.size_push]
            rw [this] at h2'
            exact Nat.le_trans (Nat.le_trans (Nat.le_succ _) (Nat.le_succ _)) h2'
      · exact (hfp b q).2
    refine hQ h' tk f'' H.objs.size hh₂.objs.size its' (Nat.le_trans htk ht) (ex.trans ex') cx'.wd kAll (oldNone _ hnewC) hDC cx'.ok.ns (oldNone _ (size_none _ (Nat.le_refl _))) hl' ?_
    simpa using r'

theorem se_comp (ok : Γ.Ok) {elt : C} {t : Tgt} {it : It} {ifs : Cs} {r : Gs} {pos : Pos} (hw : wfScope kinds sc = true) (hit : SIt Γ kinds it) (hen : isEnumIt it = true → isTup t = true) (helt : SE Γ (innerKinds kinds sc) elt)
    (h2 : SIfs Γ (innerKinds kinds sc) ifs) (h4 : ∀ i ∈ t.is, ownName sc (Γ.tab i) = true) (h5 : ∀ i ∈ t.is, i ∉ r.targets) (h6 : SGs Γ (innerKinds kinds sc) sc r) (h7 : ∀ i ∈ r.targets, ownName sc (Γ.tab i) = true) : SE Γ kinds (.comp elt (.gen t it ifs r) sc pos) := fun ρ d h A env s f Av E ao cx => by
  simp only [ev_e1, ev_e2, ev_e3, ev_e4, ev_e5, ev_e6, ev_e7, ev_e8, ev_e9, ev_e10, ev_e11, ev_e12, ev_e13, ev_e14, ev_e15, ev_e16, ev_e17, ev_e18, ev_e19, ev_e20, ev_e21, ev_e22, ev_e23, ev_e24, ev_e25, ev_e26, ev_e27, ev_e28] at h
  obtain ⟨ds, hds, h⟩ := Option.bind_eq_some_iff.mp h
  obtain ⟨bs, hc, h⟩ := Option.bind_eq_some_iff.mp h
  obtain ⟨hsz, rfl⟩ := mkList_inv h
  show wpAny _ A (eval (.ListComp (elt.toE Γ.tab) ((Gs.gen t it ifs r).toE Γ.tab) sc pos) env) _ E s
  rw [eval_ListComp]
  refine comp_core (use := none) ok ao hw hit hen helt h2 h4 h5 h6 h7 cx hds hc hsz fun h' tk f' C dst its ht ex wd k hC hCD hn hd hl r => ?_
  replace r : RdAll f' Av h' its.toList bs := RdAll.weaken (fun a q => .inl q) _ r
  obtain ⟨m, hn⟩ := hn
  refine ⟨m, hn, fun h'' hs => ?_⟩
  have kC : KeepX A (fun b => b = C) h' h'' := .of_but fun b o n e => hs.extBut b o n e
  have clC : Clear (fun b => b = C) Av h' := fun b o xs n hb e d => by
    subst hb
    obtain ⟨o', es, ep, ho, hd', _⟩ := hn
    rw [ho] at e; cases e
    rw [hd'] at d; cases d
  refine ⟨⟨h'', tk, rfl, k.trans' kC fun b o _ e q => by rw [q, hC] at e; cases e⟩, f', ex, wd, dst, its, rfl, fun q => ?_, Heap.IsList.keepX hl.isList kC (Ne.symm hCD), RdAll.keepX kC clC (.refl f') _ r⟩
  obtain ⟨o, e⟩ := cx.av dst q
  rw [hd] at e; cases e
end
end Mine
end

section
namespace Mine
open PySem PySem.W PyProof.Rows

noncomputable def glob (K : List (Str × NameKind)) (x : Str) : Bool := K.lookup x == some .globalImplicit
noncomputable def notNil : Cs → Bool
  | .nil => false
  | _ => true
mutual
noncomputable def wfC (tab : Nat → Str) : C → List (Str × NameKind) → Bool
  | .int .., _ => true
  | .str s _, _ => PyData.strOk (Str.ofString s)
  | .bool .., _ => true
  | .var .., _ => true
  | .nothing, _ => true
  | .list es _, K => wfCs tab es K
  | .tuple es _, K => wfCs tab es K
  | .bin _ a b _, K => wfC tab a K && wfC tab b K
  | .neg a _, K => wfC tab a K
  | .not a _, K => false
  | .notL .., _ => true
  | .cmp _ a b _, K => wfC tab a K && wfC tab b K
  | .and2 a b _, K => false
  | .and3 a b c _, K => false
  | .or2 a b _, K => wfC tab a K && wfC tab b K
  | .isOrEq .., _ => true
  | .ite t a b _, K => wfC tab t K && wfC tab a K && wfC tab b K
  | .item a i _, K => wfC tab a K && wfC tab i K
  | .slice a lo hi st _ _, K => wfC tab a K && wfC tab lo K && wfC tab hi K && wfC tab st K && partC lo && partC hi && partC st
  | .call i args _ _, K => glob K (tab i) && notNil args && wfCs tab args K
  | .sum a _ _, K => glob K "sum" && wfC tab a K
  | .len a _ _, K => glob K "len" && wfC tab a K
  | .max1 a _ _, K => false
  | .min2 a b _ _, K => false
  | .join a b pm p, K => isStrC a && (pm.endLine == p.line) && wfC tab a K && wfC tab b K
  | .index a b pm p, K => isStrC a && (pm.endLine == p.line) && wfC tab a K && wfC tab b K
  | .comp elt g sc _, K => match g with
    | .done => false
    | .gen t it ifs r => wfScope K sc && wfIt tab it K && (!isEnumIt it || isTup t) && wfC tab elt (innerKinds K sc) && wfCs tab ifs (innerKinds K sc) && t.is.all (fun i => ownName sc (tab i) && !r.targets.contains i) &&
        wfGs tab sc r (innerKinds K sc) && r.targets.all (fun i => ownName sc (tab i))
noncomputable def wfCs (tab : Nat → Str) : Cs → List (Str × NameKind) → Bool
  | .nil, _ => true
  | .cons c r, K => wfC tab c K && wfCs tab r K
noncomputable def wfGs (tab : Nat → Str) (sc : Scope) : Gs → List (Str × NameKind) → Bool
  | .done, _ => true
  | .gen t it ifs r, K => wfIt tab it K && (!isEnumIt it || isTup t) && wfCs tab ifs K && t.is.all (fun i => ownName sc (tab i) && storable K (tab i) && !r.targets.contains i) && wfGs tab sc r K
noncomputable def wfIt (tab : Nat → Str) : It → List (Str × NameKind) → Bool
  | .range1 a _ _, K => glob K "range" && wfC tab a K
  | .range2 a b _ _, K => glob K "range" && wfC tab a K && wfC tab b K
  | .enum a _ _, K => glob K "enumerate" && wfC tab a K
  | .of a, K => wfC tab a K
end


section
variable {tab : Nat → Str}
theorem wfC_e1 {q1 q2 q3} : wfC tab (.int q1 q2) q3 = (true) := rfl
theorem wfC_e2 {s q1 q2} : wfC tab (.str s q1) q2 = (PyData.strOk (Str.ofString s)) := rfl
theorem wfC_e3 {q1 q2 q3} : wfC tab (.bool q1 q2) q3 = (true) := rfl
theorem wfC_e4 {q1 q2 q3} : wfC tab (.var q1 q2) q3 = (true) := rfl
theorem wfC_e5 {q1} : wfC tab .nothing q1 = (true) := rfl
theorem wfC_e6 {es q1 K} : wfC tab (.list es q1) K = (wfCs tab es K) := rfl
theorem wfC_e7 {es q1 K} : wfC tab (.tuple es q1) K = (wfCs tab es K) := rfl
theorem wfC_e8 {q1 a b q2 K} : wfC tab (.bin q1 a b q2) K = (wfC tab a K && wfC tab b K) := rfl
theorem wfC_e9 {a q1 K} : wfC tab (.neg a q1) K = (wfC tab a K) := rfl
theorem wfC_e10 {a q1 K} : wfC tab (.not a q1) K = (false) := rfl
theorem wfC_e11 {q1 q2 q3 q4} : wfC tab (.notL q1 q2 q3) q4 = (true) := rfl
theorem wfC_e12 {q1 a b q2 K} : wfC tab (.cmp q1 a b q2) K = (wfC tab a K && wfC tab b K) := rfl
theorem wfC_e13 {a b q1 K} : wfC tab (.and2 a b q1) K = (false) := rfl
theorem wfC_e14 {a b c q1 K} : wfC tab (.and3 a b c q1) K = (false) := rfl
theorem wfC_e15 {a b q1 K} : wfC tab (.or2 a b q1) K = (wfC tab a K && wfC tab b K) := rfl
theorem wfC_e16 {q1 q2 q3 q4 q5 q6 q7 q8 q9 q10} : wfC tab (.isOrEq q1 q2 q3 q4 q5 q6 q7 q8 q9) q10 = (true) := rfl
theorem wfC_e17 {t a b q1 K} : wfC tab (.ite t a b q1) K = (wfC tab t K && wfC tab a K && wfC tab b K) := rfl
theorem wfC_e18 {a i q1 K} : wfC tab (.item a i q1) K = (wfC tab a K && wfC tab i K) := rfl
theorem wfC_e19 {a lo hi st q1 q2 K} : wfC tab (.slice a lo hi st q1 q2) K = (wfC tab a K && wfC tab lo K && wfC tab hi K && wfC tab st K && partC lo && partC hi && partC st) := rfl
theorem wfC_e20 {i args q1 q2 K} : wfC tab (.call i args q1 q2) K = (glob K (tab i) && notNil args && wfCs tab args K) := rfl
theorem wfC_e21 {a q1 q2 K} : wfC tab (.sum a q1 q2) K = (glob K "sum" && wfC tab a K) := rfl
theorem wfC_e22 {a q1 q2 K} : wfC tab (.len a q1 q2) K = (glob K "len" && wfC tab a K) := rfl
theorem wfC_e23 {a q1 q2 K} : wfC tab (.max1 a q1 q2) K = (false) := rfl
theorem wfC_e24 {a b q1 q2 K} : wfC tab (.min2 a b q1 q2) K = (false) := rfl
theorem wfC_e25 {a b pm p K} : wfC tab (.join a b pm p) K = (isStrC a && (pm.endLine == p.line) && wfC tab a K && wfC tab b K) := rfl
theorem wfC_e26 {a b pm p K} : wfC tab (.index a b pm p) K = (isStrC a && (pm.endLine == p.line) && wfC tab a K && wfC tab b K) := rfl
theorem wfC_e27 {elt sc q1 K} : wfC tab (.comp elt .done sc q1) K = (false) := rfl
theorem wfC_e28 {elt t it ifs r sc q1 K} : wfC tab (.comp elt (.gen t it ifs r) sc q1) K = (wfScope K sc && wfIt tab it K && (!isEnumIt it || isTup t) && wfC tab elt (innerKinds K sc) && wfCs tab ifs (innerKinds K sc) && t.is.all (fun i => ownName sc (tab i) && !r.targets.contains i) &&
        wfGs tab sc r (innerKinds K sc) && r.targets.all (fun i => ownName sc (tab i))) := rfl
theorem wfCs_e1 {q1} : wfCs tab .nil q1 = (true) := rfl
theorem wfCs_e2 {c r K} : wfCs tab (.cons c r) K = (wfC tab c K && wfCs tab r K) := rfl
theorem wfIt_e1 {a q1 q2 K} : wfIt tab (.range1 a q1 q2) K = (glob K "range" && wfC tab a K) := rfl
theorem wfIt_e2 {a b q1 q2 K} : wfIt tab (.range2 a b q1 q2) K = (glob K "range" && wfC tab a K && wfC tab b K) := rfl
theorem wfIt_e3 {a q1 q2 K} : wfIt tab (.enum a q1 q2) K = (glob K "enumerate" && wfC tab a K) := rfl
theorem wfIt_e4 {a K} : wfIt tab (.of a) K = (wfC tab a K) := rfl
theorem wfGs_e1 {sc : Scope} {q1} : wfGs tab sc .done q1 = (true) := rfl
theorem wfGs_e2 {sc : Scope} {t it ifs r K} : wfGs tab sc (.gen t it ifs r) K = (wfIt tab it K && (!isEnumIt it || isTup t) && wfCs tab ifs K && t.is.all (fun i => ownName sc (tab i) && storable K (tab i) && !r.targets.contains i) && wfGs tab sc r K) := rfl
end
theorem glob_eq {K : List (Str × NameKind)} {x : Str} (h : glob K x = true) : K.lookup x = some .globalImplicit := by unfold glob at h; simpa using h

section
variable {Γ : Ctxt} (ok : Γ.Ok)
include ok
mutual
theorem soundC : ∀ (c : C) (K : List (Str × NameKind)), wfC Γ.tab c K = true → SE Γ K c ∧ SB Γ K c
  | .int n p, K, h => ⟨se_int n p, sb_plain rfl (se_int n p)⟩
  | .str n p, K, h => ⟨se_str n p (by simpa [wfC_e1, wfC_e2, wfC_e3, wfC_e4, wfC_e5, wfC_e6, wfC_e7, wfC_e8, wfC_e9, wfC_e10, wfC_e11, wfC_e12, wfC_e13, wfC_e14, wfC_e15, wfC_e16, wfC_e17, wfC_e18, wfC_e19, wfC_e20, wfC_e21, wfC_e22, wfC_e23, wfC_e24, wfC_e25, wfC_e26, wfC_e27, wfC_e28] using h), sb_plain rfl (se_str n p (by simpa [wfC_e1, wfC_e2, wfC_e3, wfC_e4, wfC_e5, wfC_e6, wfC_e7, wfC_e8, wfC_e9, wfC_e10, wfC_e11, wfC_e12, wfC_e13, wfC_e14, wfC_e15, wfC_e16, wfC_e17, wfC_e18, wfC_e19, wfC_e20, wfC_e21, wfC_e22, wfC_e23, wfC_e24, wfC_e25, wfC_e26, wfC_e27, wfC_e28] using h))⟩
  | .bool n p, K, h => ⟨se_bool n p, sb_plain rfl (se_bool n p)⟩
  | .var i p, K, h => ⟨se_var ok i p, sb_plain rfl (se_var ok i p)⟩
  | .nothing, K, h => ⟨se_nothing, sb_plain rfl se_nothing⟩
  | .list es p, K, h => by
    have e := soundCs es K (by simpa [wfC_e1, wfC_e2, wfC_e3, wfC_e4, wfC_e5, wfC_e6, wfC_e7, wfC_e8, wfC_e9, wfC_e10, wfC_e11, wfC_e12, wfC_e13, wfC_e14, wfC_e15, wfC_e16, wfC_e17, wfC_e18, wfC_e19, wfC_e20, wfC_e21, wfC_e22, wfC_e23, wfC_e24, wfC_e25, wfC_e26, wfC_e27, wfC_e28] using h)
    exact ⟨se_list e.1, sb_plain rfl (se_list e.1)⟩
  | .tuple es p, K, h => by
    have e := soundCs es K (by simpa [wfC_e1, wfC_e2, wfC_e3, wfC_e4, wfC_e5, wfC_e6, wfC_e7, wfC_e8, wfC_e9, wfC_e10, wfC_e11, wfC_e12, wfC_e13, wfC_e14, wfC_e15, wfC_e16, wfC_e17, wfC_e18, wfC_e19, wfC_e20, wfC_e21, wfC_e22, wfC_e23, wfC_e24, wfC_e25, wfC_e26, wfC_e27, wfC_e28] using h)
    exact ⟨se_tuple e.1, sb_plain rfl (se_tuple e.1)⟩
  | .bin o a b p, K, h => by
    simp only [wfC_e1, wfC_e2, wfC_e3, wfC_e4, wfC_e5, wfC_e6, wfC_e7, wfC_e8, wfC_e9, wfC_e10, wfC_e11, wfC_e12, wfC_e13, wfC_e14, wfC_e15, wfC_e16, wfC_e17, wfC_e18, wfC_e19, wfC_e20, wfC_e21, wfC_e22, wfC_e23, wfC_e24, wfC_e25, wfC_e26, wfC_e27, wfC_e28, Bool.and_eq_true] at h
    have e := se_bin (o := o) (p := p) (soundC a K h.1).1 (soundC b K h.2).1
    exact ⟨e, sb_plain rfl e⟩
  | .neg a p, K, h => by
    simp only [wfC_e1, wfC_e2, wfC_e3, wfC_e4, wfC_e5, wfC_e6, wfC_e7, wfC_e8, wfC_e9, wfC_e10, wfC_e11, wfC_e12, wfC_e13, wfC_e14, wfC_e15, wfC_e16, wfC_e17, wfC_e18, wfC_e19, wfC_e20, wfC_e21, wfC_e22, wfC_e23, wfC_e24, wfC_e25, wfC_e26, wfC_e27, wfC_e28] at h
    have e := se_neg (p := p) (soundC a K h).1
    exact ⟨e, sb_plain rfl e⟩
  | .not a p, K, h => nomatch (show false = true from h)
  | .notL i pi p, K, h => ⟨se_notL ok, sb_notL ok⟩
  | .cmp o a b p, K, h => by
    simp only [wfC_e1, wfC_e2, wfC_e3, wfC_e4, wfC_e5, wfC_e6, wfC_e7, wfC_e8, wfC_e9, wfC_e10, wfC_e11, wfC_e12, wfC_e13, wfC_e14, wfC_e15, wfC_e16, wfC_e17, wfC_e18, wfC_e19, wfC_e20, wfC_e21, wfC_e22, wfC_e23, wfC_e24, wfC_e25, wfC_e26, wfC_e27, wfC_e28, Bool.and_eq_true] at h
    exact ⟨se_cmp (soundC a K h.1).1 (soundC b K h.2).1, sb_cmp (soundC a K h.1).1 (soundC b K h.2).1⟩
  | .and2 a b p, K, h => nomatch (show false = true from h)
  | .and3 a b c p, K, h => nomatch (show false = true from h)
  | .or2 a b p, K, h => by
    simp only [wfC_e1, wfC_e2, wfC_e3, wfC_e4, wfC_e5, wfC_e6, wfC_e7, wfC_e8, wfC_e9, wfC_e10, wfC_e11, wfC_e12, wfC_e13, wfC_e14, wfC_e15, wfC_e16, wfC_e17, wfC_e18, wfC_e19, wfC_e20, wfC_e21, wfC_e22, wfC_e23, wfC_e24, wfC_e25, wfC_e26, wfC_e27, wfC_e28, Bool.and_eq_true] at h
    exact ⟨se_or2 (soundC a K h.1).1 (soundC b K h.2).1, sb_or2 (soundC a K h.1).2 (soundC b K h.2).2⟩
  | .isOrEq i j pi pj qi qj p1 p2 p, K, h => ⟨se_isOrEq ok, sb_isOrEq ok⟩
  | .ite t a b p, K, h => by
    simp only [wfC_e1, wfC_e2, wfC_e3, wfC_e4, wfC_e5, wfC_e6, wfC_e7, wfC_e8, wfC_e9, wfC_e10, wfC_e11, wfC_e12, wfC_e13, wfC_e14, wfC_e15, wfC_e16, wfC_e17, wfC_e18, wfC_e19, wfC_e20, wfC_e21, wfC_e22, wfC_e23, wfC_e24, wfC_e25, wfC_e26, wfC_e27, wfC_e28, Bool.and_eq_true] at h
    exact ⟨se_ite (soundC t K h.1.1).2 (soundC a K h.1.2).1 (soundC b K h.2).1, sb_ite (soundC t K h.1.1).2 (soundC a K h.1.2).2 (soundC b K h.2).2⟩
  | .item a i p, K, h => by
    simp only [wfC_e1, wfC_e2, wfC_e3, wfC_e4, wfC_e5, wfC_e6, wfC_e7, wfC_e8, wfC_e9, wfC_e10, wfC_e11, wfC_e12, wfC_e13, wfC_e14, wfC_e15, wfC_e16, wfC_e17, wfC_e18, wfC_e19, wfC_e20, wfC_e21, wfC_e22, wfC_e23, wfC_e24, wfC_e25, wfC_e26, wfC_e27, wfC_e28, Bool.and_eq_true] at h
    have e := se_item (p := p) (soundC a K h.1).1 (soundC i K h.2).1
    exact ⟨e, sb_plain rfl e⟩
  | .slice a lo hi st ps p, K, h => by
    simp only [wfC_e1, wfC_e2, wfC_e3, wfC_e4, wfC_e5, wfC_e6, wfC_e7, wfC_e8, wfC_e9, wfC_e10, wfC_e11, wfC_e12, wfC_e13, wfC_e14, wfC_e15, wfC_e16, wfC_e17, wfC_e18, wfC_e19, wfC_e20, wfC_e21, wfC_e22, wfC_e23, wfC_e24, wfC_e25, wfC_e26, wfC_e27, wfC_e28, Bool.and_eq_true] at h
    obtain ⟨⟨⟨⟨⟨⟨h1, h2⟩, h3⟩, h4⟩, p1⟩, p2⟩, p3⟩ := h
    have e := se_slice (ps := ps) (p := p) p1 p2 p3 (soundC a K h1).1 (soundC lo K h2).1 (soundC hi K h3).1 (soundC st K h4).1
    exact ⟨e, sb_plain rfl e⟩
  | .call i args pf p, K, h => by
    simp only [wfC_e1, wfC_e2, wfC_e3, wfC_e4, wfC_e5, wfC_e6, wfC_e7, wfC_e8, wfC_e9, wfC_e10, wfC_e11, wfC_e12, wfC_e13, wfC_e14, wfC_e15, wfC_e16, wfC_e17, wfC_e18, wfC_e19, wfC_e20, wfC_e21, wfC_e22, wfC_e23, wfC_e24, wfC_e25, wfC_e26, wfC_e27, wfC_e28, Bool.and_eq_true] at h
    cases args with
    | nil => cases h.1.2
    | cons a r =>
      have e := se_call (pf := pf) (p := p) ok (glob_eq h.1.1) (soundCs (.cons a r) K h.2).1
      exact ⟨e, sb_plain rfl e⟩
  | .sum a pf p, K, h => by
    simp only [wfC_e1, wfC_e2, wfC_e3, wfC_e4, wfC_e5, wfC_e6, wfC_e7, wfC_e8, wfC_e9, wfC_e10, wfC_e11, wfC_e12, wfC_e13, wfC_e14, wfC_e15, wfC_e16, wfC_e17, wfC_e18, wfC_e19, wfC_e20, wfC_e21, wfC_e22, wfC_e23, wfC_e24, wfC_e25, wfC_e26, wfC_e27, wfC_e28, Bool.and_eq_true] at h
    have e := se_sum (pf := pf) (p := p) ok (glob_eq h.1) (soundC a K h.2).1
    exact ⟨e, sb_plain rfl e⟩
  | .len a pf p, K, h => by
    simp only [wfC_e1, wfC_e2, wfC_e3, wfC_e4, wfC_e5, wfC_e6, wfC_e7, wfC_e8, wfC_e9, wfC_e10, wfC_e11, wfC_e12, wfC_e13, wfC_e14, wfC_e15, wfC_e16, wfC_e17, wfC_e18, wfC_e19, wfC_e20, wfC_e21, wfC_e22, wfC_e23, wfC_e24, wfC_e25, wfC_e26, wfC_e27, wfC_e28, Bool.and_eq_true] at h
    have e := se_len (pf := pf) (p := p) ok (glob_eq h.1) (soundC a K h.2).1
    exact ⟨e, sb_plain rfl e⟩
  | .max1 a pf p, K, h => nomatch (show false = true from h)
  | .min2 a b pf p, K, h => nomatch (show false = true from h)
  | .join a b pm p, K, h => by
    simp only [wfC_e1, wfC_e2, wfC_e3, wfC_e4, wfC_e5, wfC_e6, wfC_e7, wfC_e8, wfC_e9, wfC_e10, wfC_e11, wfC_e12, wfC_e13, wfC_e14, wfC_e15, wfC_e16, wfC_e17, wfC_e18, wfC_e19, wfC_e20, wfC_e21, wfC_e22, wfC_e23, wfC_e24, wfC_e25, wfC_e26, wfC_e27, wfC_e28, Bool.and_eq_true] at h
    have e := se_join h.1.1.1 h.1.1.2 (soundC a K h.1.2).1 (soundC b K h.2).1
    exact ⟨e, sb_plain rfl e⟩
  | .index a b pm p, K, h => by
    simp only [wfC_e1, wfC_e2, wfC_e3, wfC_e4, wfC_e5, wfC_e6, wfC_e7, wfC_e8, wfC_e9, wfC_e10, wfC_e11, wfC_e12, wfC_e13, wfC_e14, wfC_e15, wfC_e16, wfC_e17, wfC_e18, wfC_e19, wfC_e20, wfC_e21, wfC_e22, wfC_e23, wfC_e24, wfC_e25, wfC_e26, wfC_e27, wfC_e28, Bool.and_eq_true] at h
    have e := se_index h.1.1.1 h.1.1.2 (soundC a K h.1.2).1 (soundC b K h.2).1
    exact ⟨e, sb_plain rfl e⟩
  | .comp elt .done sc p, K, h => by simp [wfC_e1, wfC_e2, wfC_e3, wfC_e4, wfC_e5, wfC_e6, wfC_e7, wfC_e8, wfC_e9, wfC_e10, wfC_e11, wfC_e12, wfC_e13, wfC_e14, wfC_e15, wfC_e16, wfC_e17, wfC_e18, wfC_e19, wfC_e20, wfC_e21, wfC_e22, wfC_e23, wfC_e24, wfC_e25, wfC_e26, wfC_e27, wfC_e28] at h
  | .comp elt (.gen t it ifs r) sc p, K, h => by
    simp only [wfC_e1, wfC_e2, wfC_e3, wfC_e4, wfC_e5, wfC_e6, wfC_e7, wfC_e8, wfC_e9, wfC_e10, wfC_e11, wfC_e12, wfC_e13, wfC_e14, wfC_e15, wfC_e16, wfC_e17, wfC_e18, wfC_e19, wfC_e20, wfC_e21, wfC_e22, wfC_e23, wfC_e24, wfC_e25, wfC_e26, wfC_e27, wfC_e28, Bool.and_eq_true, List.all_eq_true, Bool.or_eq_true, Bool.not_eq_true'] at h
    obtain ⟨⟨⟨⟨⟨⟨⟨h1, h2⟩, h3⟩, h4⟩, h5⟩, h6⟩, h7⟩, h8⟩ := h
    have e := se_comp (pos := p) ok h1 (soundIt it K h2) (fun q => h3.elim (fun z => by rw [q] at z; cases z) id) (soundC elt _ h4).1 (soundCs ifs _ h5).2 (fun i hi => (h6 i hi).1) (fun i hi q => by
      have := (h6 i hi).2; rw [List.contains_iff_mem.mpr q] at this; cases this) (soundGs sc r _ h7) h8
    exact ⟨e, sb_plain rfl e⟩
theorem soundCs : ∀ (cs : Cs) (K : List (Str × NameKind)), wfCs Γ.tab cs K = true → SEs Γ K cs ∧ SIfs Γ K cs
  | .nil, K, h => ⟨ses_nil, sifs_nil⟩
  | .cons c r, K, h => by
    simp only [wfCs_e1, wfCs_e2, Bool.and_eq_true] at h
    exact ⟨ses_cons (soundC c K h.1).1 (soundCs r K h.2).1, sifs_cons (soundC c K h.1).2 (soundCs r K h.2).2⟩
theorem soundGs (sc : Scope) : ∀ (g : Gs) (K : List (Str × NameKind)), wfGs Γ.tab sc g K = true → SGs Γ K sc g
  | .done, K, h => trivial
  | .gen t it ifs r, K, h => by
    simp only [wfGs_e1, wfGs_e2, Bool.and_eq_true, List.all_eq_true, Bool.or_eq_true, Bool.not_eq_true'] at h
    obtain ⟨⟨⟨⟨h1, h2⟩, h3⟩, h4⟩, h5⟩ := h
    exact ⟨soundIt it K h1, (soundCs ifs K h3).2, fun q => h2.elim (fun z => by rw [q] at z; cases z) id, fun i hi => (h4 i hi).1, (fun i hi q => by
      have := (h4 i hi).2; rw [List.contains_iff_mem.mpr q] at this; cases this), soundGs sc r K h5⟩
theorem soundIt : ∀ (it : It) (K : List (Str × NameKind)), wfIt Γ.tab it K = true → SIt Γ K it
  | .range1 a pf p, K, h => by
    simp only [wfIt_e1, wfIt_e2, wfIt_e3, wfIt_e4, Bool.and_eq_true] at h
    exact sit_range1 ok (glob_eq h.1) (soundC a K h.2).1
  | .range2 a b pf p, K, h => by
    simp only [wfIt_e1, wfIt_e2, wfIt_e3, wfIt_e4, Bool.and_eq_true] at h
    exact sit_range2 ok (glob_eq h.1.1) (soundC a K h.1.2).1 (soundC b K h.2).1
  | .enum a pf p, K, h => by
    simp only [wfIt_e1, wfIt_e2, wfIt_e3, wfIt_e4, Bool.and_eq_true] at h
    exact sit_enum ok (glob_eq h.1) (soundC a K h.2).1
  | .of a, K, h => by
    simp only [wfIt_e1, wfIt_e2, wfIt_e3, wfIt_e4] at h
    exact sit_of (soundC a K h).1
end
end
end Mine
end

section
namespace Mine
open PySem PySem.W PyProof.Rows

/-! list operations that turn a list of this frame's own -/
theorem list_extendW (l : Addr) (items : Array Value) (n : Nat) (b : Addr) (items2 : Array Value) (n2 : Nat) (dd dd2 : Option Addr) (sl sl2 : Array (Option Value)) (hc0 : ¬(!items.isEmpty && Builtin.List.listTooLong (items.size + items2.size)) = true) (hc1 : items.size ≤ sizeLine) (hs2 : items.size + items2.size ≤ sizeLine + 1) :
    Meets (Builtin.«list.extend» ⟨[.ref l, .ref b], []⟩) (fun _ R s => s.heap.get? l = some { cls := .type "list", dict := dd, data := .seq items n, slots := sl } ∧ s.heap.get? b = some { cls := .type "list", dict := dd2, data := .seq items2 n2, slots := sl2 } ∧ R (.ok (.ret Value.none)) { s with heap := s.heap.update l (Obj.mapSeq fun x => x ++ items2), toks := s.toks }) :=
  .of_wp fun prog w A R s h => by
    obtain ⟨hp, g, d, tk, os⟩ := s; obtain ⟨hl, hb, h⟩ := h; have f1 := AutoSeq1.idx_int; have f2 := AutoSeq1.sub_tuple_tuple; have f3 := AutoSeq1.sub_list_list; have f4 := AutoSeq1.sub_tuple_list; have f5 := AutoSeq1.sub_list_tuple;
    have hz' : (items ++ items2).size ≤ sizeLine + 1 := by rw [Array.size_append]; exact hs2
    wp_walk using (wpAny_updateSeq hl rfl (hz := hc1) (_hz' := hz')), wpAny_loadPart' hl, wpAny_loadPart' hb; exact ⟨_, rfl, h⟩

theorem plainL_update {h : Heap} {l : Addr} {its : Array Value} (p : PlainL h l its) (g : Array Value → Array Value) : PlainL (h.update l (Obj.mapSeq g)) l (g its) := by
  obtain ⟨o, n, ho, hc, hdn, hd⟩ := p
  obtain ⟨n', hd'⟩ := Obj.data_mapSeq hd g
  refine ⟨_, n', Heap.get?_update_self _ ho (Obj.isFreed_of_seq hd'), (Obj.cls_mapSeq ..).trans hc, ?_, hd'⟩
  obtain ⟨c, d, dt, sl⟩ := o
  subst hd
  exact hdn

section
variable {prog : Program} {w : World} {A : Around} {E : Value → Shared → Prop} {s : Shared}

theorem extend_plain {l b : Addr} {its jts : Array Value} {Q : Value → Shared → Prop} (p : PlainL s.heap l its) (q : s.heap.IsList b jts) (hsz : its.size + jts.size ≤ lim)
    (hQ : ∀ h', PlainL h' l (its ++ jts) → Heap.SameBut l s.heap h' → Q .none { s with heap := h' }) :
    wpAny (model prog w) A (call (.builtin "list.extend") [.ref l, .ref b]) Q E s := by
  have p' := p
  obtain ⟨⟨cls, dd, data, sl⟩, n, ho, hc, hdn, hd⟩ := p
  obtain ⟨⟨cls2, dd2, data2, sl2⟩, ho2, hc2, n2, hd2⟩ := q
  simp only at hc hd hc2 hd2 hdn
  subst hc hd hc2 hd2 hdn
  have := lim_le
  exact call_meets PySem.F.slot_list_extend ⟨_, ho, rfl⟩ PySem.F.entry_list_extend (PySem.F.args_list_extend_2 _ _) (list_extendW l its n b jts n2 none dd2 sl sl2 (extend_door (by omega)) (by omega) (by omega))
    ⟨ho, ho2, hQ _ (plainL_update p' _) (Heap.SameBut.update ..)⟩

end

/-! the state between statements -/
noncomputable def AvOf (Av₀ : Addr → Prop) (own : Nat → Option Addr) : Addr → Prop := fun a => Av₀ a ∨ ∃ i, own i = some a

structure SC (Γ : Ctxt) (A : Around) (env : Env) (kinds : List (Str × NameKind)) (Av₀ : Addr → Prop) (own : Nat → Option Addr) (σ : St) (f : TokMap) (s : Shared) : Prop where
  si : SI Γ.h₁ A s.heap
  ok : EnvOk env kinds s.heap
  lo : Γ.h₁.get? env.locals = none
  ce : ∀ n c, env.cells.lookup n = some c → Γ.h₁.get? c = none
  av : ∀ a, Av₀ a → ∃ o, s.heap.get? a = some o
  wd : Wd f s.toks
  fz : ∀ i d, σ i = some (false, d) → ∃ v, VarAt env s.heap (Γ.tab i) v ∧ Rd f (AvOf Av₀ own) s.heap v d
  ow : ∀ i d, σ i = some (true, d) → ∃ l its ds, d = .list ds ∧ own i = some l ∧ VarAt env s.heap (Γ.tab i) (.ref l) ∧ PlainL s.heap l its ∧ RdAll f (AvOf Av₀ own) s.heap its.toList ds
  nw : ∀ i l, own i = some l → Γ.h₁.get? l = none ∧ ¬ Av₀ l ∧ ∃ its, PlainL s.heap l its
  inj : ∀ i j l, own i = some l → own j = some l → i = j
  fr : ∃ outer L, A.frames = some (env :: outer) ∧ env.frame = some L

section
variable {Γ : Ctxt} {kinds : List (Str × NameKind)} {A : Around} {env : Env} {s s₁ : Shared} {f f₁ : TokMap} {Av₀ : Addr → Prop} {own : Nat → Option Addr} {σ : St}

theorem frozen_inv {i : Nat} {d : D} (h : σ.frozen i = some d) : σ i = some (false, d) := by
  unfold St.frozen at h
  split at h
  · rename_i h'; cases h; exact h'
  · cases h
theorem SC.frozen (x : SC Γ A env kinds Av₀ own σ f s) : Cx Γ.tab Γ.h₁ A env kinds σ.frozen f (AvOf Av₀ own) s :=
  ⟨x.si, x.ok, x.lo, x.ce, fun a q => q.elim (x.av a) fun ⟨i, q⟩ => let ⟨_, _, its, o, n, e, _⟩ := x.nw i a q; ⟨o, e⟩, x.wd, fun i d h => x.fz i d (frozen_inv h)⟩
theorem SC.full (x : SC Γ A env kinds Av₀ own σ f s) : Cx Γ.tab Γ.h₁ A env kinds σ.full f Av₀ s :=
  ⟨x.si, x.ok, x.lo, x.ce, x.av, x.wd, fun i d h => by
    unfold St.full at h
    obtain ⟨⟨b, d'⟩, h1, h2⟩ := Option.map_eq_some_iff.mp h
    have h2' : d' = d := h2
    subst h2'
    cases b with
    | false => obtain ⟨v, h3, h4⟩ := x.fz i _ h1; exact ⟨v, h3, Rd.weaken (fun a q => .inl q) _ h4⟩
    | true =>
      obtain ⟨l, its, ds, rfl, h3, h4, h5, h6⟩ := x.ow i _ h1
      exact ⟨.ref l, h4, l, its, rfl, (x.nw i l h3).2.1, h5.isList, RdAll.weaken (fun a q => .inl q) _ h6⟩⟩

theorem SC.keep (x : SC Γ A env kinds Av₀ own σ f s) (k : KeepS A s s₁) (e : Ext f f₁) (w : Wd f₁ s₁.toks) : SC Γ A env kinds Av₀ own σ f₁ s₁ :=
  ⟨x.si.keep k.keep, x.ok.keep k.keep, x.lo, x.ce, fun a q => let ⟨o, e⟩ := x.av a q; let ⟨o', e', _⟩ := k.keep a o (fun q => q) e; ⟨o', e'⟩, w,
    fun i d h => let ⟨v, a, b⟩ := x.fz i d h; ⟨v, a.keep k.keep, b.keep k.keep e⟩,
    fun i d h => let ⟨l, its, ds, a, b, c, p, r⟩ := x.ow i d h; ⟨l, its, ds, a, b, c.keep k.keep, plKeep p k.keep (fun q => q), r.keep k.keep e⟩,
    fun i l h => let ⟨a, b, its, p⟩ := x.nw i l h; ⟨a, b, its, plKeep p k.keep (fun q => q)⟩, x.inj, x.fr⟩

theorem ws_noPlain {h : Heap} {l : Addr} {its : Array Value} (ok : EnvOk env kinds h) (p : PlainL h l its) {x : Str} : ¬ WS env x l := ws_list ok p.isList

/-- a name takes a frozen value -/
noncomputable def drop1 (own : Nat → Option Addr) (i : Nat) : Nat → Option Addr := fun j => if j = i then none else own j
theorem drop1_some {i j : Nat} {l : Addr} (h : drop1 own i j = some l) : own j = some l ∧ j ≠ i := by
  unfold drop1 at h
  split at h
  · cases h
  · exact ⟨h, ‹_›⟩
theorem avOf_drop1 {i : Nat} {a : Addr} (h : AvOf Av₀ (drop1 own i) a) : AvOf Av₀ own a := h.imp id fun ⟨j, q⟩ => ⟨j, (drop1_some q).1⟩

theorem SC.storeF (ok : Γ.Ok) (x : SC Γ A env kinds Av₀ own σ f s) {i : Nat} {v : Value} {d : D} (hr : Rd f (AvOf Av₀ (drop1 own i)) s.heap v d) (hk : storable kinds (Γ.tab i) = true) {E : Value → Shared → Prop} {Q : Unit → Shared → Prop}
    (hQ : ∀ h' tk, s.toks ≤ tk → KeepX A (WS env (Γ.tab i)) s.heap h' → SC Γ A env kinds Av₀ (drop1 own i) (upd σ i (false, d)) f { s with heap := h', toks := tk } → Q () { s with heap := h', toks := tk }) :
    wpAny (model Γ.prog Γ.w) A (storeName env (Γ.tab i) v) Q E s := by
  refine store_sound x.ok (storable_or hk) fun h' tk ht k hw ok' hv ho => hQ h' tk ht k ?_
  have cl : ∀ Av : Addr → Prop, Clear (WS env (Γ.tab i)) Av s.heap := fun Av => ws_clear x.ok _
  refine ⟨x.si.keepX k (fun b o hb e => ?_) hw, ok', x.lo, x.ce, fun a ha => ?_, x.wd.mono ht, fun j dj hj => ?_, fun j dj hj => ?_, fun j l hj => ?_, fun j j' l h1 h2 => x.inj j j' l (drop1_some h1).1 (drop1_some h2).1, x.fr⟩
  · rcases hb with ⟨_, rfl⟩ | ⟨_, hc⟩
    · rw [x.lo] at e; cases e
    · rw [x.ce _ _ hc] at e; cases e
  · obtain ⟨o, e⟩ := x.av a ha
    by_cases q : WS env (Γ.tab i) a
    · obtain ⟨o', e', _⟩ := hw a q; exact ⟨o', e'⟩
    · obtain ⟨o', e', _⟩ := k a o q e; exact ⟨o', e'⟩
  · unfold upd at hj
    by_cases q : j = i
    · subst q
      rw [if_pos rfl] at hj
      cases hj
      exact ⟨v, hv, Rd.keepX k (cl _) (.refl f) d hr⟩
    · rw [if_neg q] at hj
      obtain ⟨u, hu, hru⟩ := x.fz j dj hj
      exact ⟨u, ho _ _ (fun e => q (ok.T.inj _ _ e)) hu, Rd.weaken (fun a => avOf_drop1) _ (Rd.keepX k (cl _) (.refl f) dj hru)⟩
  · unfold upd at hj
    by_cases q : j = i
    · subst q
      rw [if_pos rfl] at hj
      cases hj
    · rw [if_neg q] at hj
      obtain ⟨l, its, ds, a, b, c, p, r⟩ := x.ow j dj hj
      refine ⟨l, its, ds, a, by unfold drop1; rw [if_neg q]; exact b, ho _ _ (fun e => q (ok.T.inj _ _ e)) c, plKeep p k (ws_noPlain x.ok p), ?_⟩
      exact RdAll.weaken (fun a => avOf_drop1) _ (RdAll.keepX k (cl _) (.refl f) ds r)
  · obtain ⟨a, b, its, p⟩ := x.nw j l (drop1_some hj).1
    exact ⟨a, b, its, plKeep p k (ws_noPlain x.ok p)⟩

/-- a name takes a new list of its own -/
noncomputable def put1 (own : Nat → Option Addr) (i : Nat) (l : Addr) : Nat → Option Addr := fun j => if j = i then some l else own j
theorem SC.storeOK (ok : Γ.Ok) (x : SC Γ A env kinds Av₀ own σ f s) {i : Nat} {s₀ : Shared} {f₀ : TokMap} {l : Addr} {its : Array Value} {ds : List D} (k0 : KeepS A s s₀) (ex0 : Ext f f₀) (wd0 : Wd f₀ s₀.toks) (hnone : s.heap.get? l = none) (hpl : PlainL s₀.heap l its)
    (hr : RdAll f₀ (AvOf Av₀ (put1 own i l)) s₀.heap its.toList ds) (hk : storable kinds (Γ.tab i) = true) {E : Value → Shared → Prop} {Q : Unit → Shared → Prop}
    (hQ : ∀ h' tk, s₀.toks ≤ tk → KeepX A (WS env (Γ.tab i)) s.heap h' → KeepX A (WS env (Γ.tab i)) s₀.heap h' → SC Γ A env kinds Av₀ (put1 own i l) (upd σ i (true, .list ds)) f₀ { s₀ with heap := h', toks := tk } → Q () { s₀ with heap := h', toks := tk }) :
    wpAny (model Γ.prog Γ.w) A (storeName env (Γ.tab i) (.ref l)) Q E s₀ := by
  have x₁ := x.keep k0 ex0 wd0
  have hav : ∀ a, AvOf Av₀ (put1 own i l) a → AvOf Av₀ own a ∨ s.heap.get? a = none := fun a q => by
    rcases q with q | ⟨j, q⟩
    · exact .inl (.inl q)
    · unfold put1 at q
      split at q
      · cases q; exact .inr hnone
      · exact .inl (.inr ⟨j, q⟩)
  refine store_sound x₁.ok (storable_or hk) fun h' tk ht k hw ok' hv ho => hQ h' tk ht ((KeepX.of_keep k0.keep).trans k) k ?_
  have cl : ∀ Av : Addr → Prop, Clear (WS env (Γ.tab i)) Av s₀.heap := fun Av => ws_clear x₁.ok _
  refine ⟨x₁.si.keepX k (fun b o hb e => ?_) hw, ok', x.lo, x.ce, fun a ha => ?_, x₁.wd.mono ht, fun j dj hj => ?_, fun j dj hj => ?_, fun j a hj => ?_, fun j j' a h1 h2 => ?_, x.fr⟩
  · rcases hb with ⟨_, rfl⟩ | ⟨_, hc⟩
    · rw [x.lo] at e; cases e
    · rw [x.ce _ _ hc] at e; cases e
  · obtain ⟨o, e⟩ := x₁.av a ha
    by_cases q : WS env (Γ.tab i) a
    · obtain ⟨o', e', _⟩ := hw a q; exact ⟨o', e'⟩
    · obtain ⟨o', e', _⟩ := k a o q e; exact ⟨o', e'⟩
  · unfold upd at hj
    by_cases q : j = i
    · subst q
      rw [if_pos rfl] at hj
      cases hj
    · rw [if_neg q] at hj
      obtain ⟨u, hu, hru⟩ := x.fz j dj hj
      exact ⟨u, ho _ _ (fun e => q (ok.T.inj _ _ e)) (hu.keep k0.keep), Rd.keepX k (cl _) (.refl _) dj ((Rd.more hav _ hru).keep k0.keep ex0)⟩
  · unfold upd at hj
    by_cases q : j = i
    · subst q
      rw [if_pos rfl] at hj
      cases hj
      exact ⟨l, its, ds, rfl, by unfold put1; rw [if_pos rfl], hv, plKeep hpl k (ws_noPlain x₁.ok hpl), RdAll.keepX k (cl _) (.refl _) ds hr⟩
    · rw [if_neg q] at hj
      obtain ⟨a, its, ds', e1, b, c, p, r⟩ := x.ow j dj hj
      have p' := plKeep p k0.keep (fun q => q)
      refine ⟨a, its, ds', e1, by unfold put1; rw [if_neg q]; exact b, ho _ _ (fun e => q (ok.T.inj _ _ e)) (c.keep k0.keep), plKeep p' k (ws_noPlain x₁.ok p'), ?_⟩
      exact RdAll.keepX k (cl _) (.refl _) ds' ((RdAll.more hav _ r).keep k0.keep ex0)
  · unfold put1 at hj
    split at hj
    · cases hj
      refine ⟨base_none x.si hnone, fun q => ?_, its, plKeep hpl k (ws_noPlain x₁.ok hpl)⟩
      obtain ⟨o, e⟩ := x.av _ q
      rw [hnone] at e; cases e
    · obtain ⟨a1, b, its, p⟩ := x.nw j a hj
      have p' := plKeep p k0.keep (fun q => q)
      exact ⟨a1, b, its, plKeep p' k (ws_noPlain x₁.ok p')⟩
  · have old : ∀ j, own j ≠ some l := fun j q => by
      obtain ⟨_, _, its, o, n, e, _⟩ := x.nw j l q
      rw [hnone] at e; cases e
    unfold put1 at h1 h2
    split at h1
    · cases h1
      split at h2
      · rw [‹j = i›, ‹j' = i›]
      · exact absurd h2 (old _)
    · split at h2
      · cases h2
        exact absurd h1 (old _)
      · exact x.inj j j' a h1 h2
theorem SC.storeOG (ok : Γ.Ok) (x : SC Γ A env kinds Av₀ own σ f s) {i : Nat} {h₀ : Heap} {l : Addr} {its : Array Value} {ds : List D} (hk0 : ∀ b o, s.heap.get? b = some o → h₀.get? b = some o) (hnone : s.heap.get? l = none) (hpl : PlainL h₀ l its)
    (hr : RdAll f (AvOf Av₀ own) s.heap its.toList ds) (hk : storable kinds (Γ.tab i) = true) {E : Value → Shared → Prop} {Q : Unit → Shared → Prop}
    (hQ : ∀ h' tk, s.toks ≤ tk → KeepX A (WS env (Γ.tab i)) s.heap h' → SC Γ A env kinds Av₀ (put1 own i l) (upd σ i (true, .list ds)) f { s with heap := h', toks := tk } → Q () { s with heap := h', toks := tk }) :
    wpAny (model Γ.prog Γ.w) A (storeName env (Γ.tab i) (.ref l)) Q E { s with heap := h₀ } := by
  have k0 : KeepS A s { s with heap := h₀ } := .of (tk := s.toks) hk0
  refine SC.storeOK ok x k0 (.refl f) x.wd hnone hpl ((RdAll.more (fun a q => ?_) _ hr).keep k0.keep (.refl f)) hk (fun h' tk ht k _ z => hQ h' tk ht k z)
  rcases q with q | ⟨j, q⟩
  · exact .inl (.inl q)
  · unfold put1 at q
    split at q
    · cases q; exact .inr hnone
    · exact .inl (.inr ⟨j, q⟩)
theorem SC.storeO (ok : Γ.Ok) (x : SC Γ A env kinds Av₀ own σ f s) {i : Nat} {vs : List Value} {ds : List D} (hr : RdAll f (AvOf Av₀ own) s.heap vs ds) (hk : storable kinds (Γ.tab i) = true) {E : Value → Shared → Prop} {Q : Unit → Shared → Prop}
    (hQ : ∀ h' tk, s.toks ≤ tk → KeepX A (WS env (Γ.tab i)) s.heap h' → SC Γ A env kinds Av₀ (put1 own i s.heap.objs.size) (upd σ i (true, .list ds)) f { s with heap := h', toks := tk } → Q () { s with heap := h', toks := tk }) :
    wpAny (model Γ.prog Γ.w) A (storeName env (Γ.tab i) (.ref s.heap.objs.size)) Q E { s with heap := s.heap.push { cls := .type "list", data := .seq vs.toArray } } :=
  SC.storeOG ok x (its := vs.toArray) (fun b o e => Heap.get?_push_of_some _ e) (size_none _ (Nat.le_refl _)) ⟨_, 0, Heap.get?_push_size _ rfl, rfl, rfl, rfl⟩ hr hk hQ

/-- an own list turns -/
theorem SC.turn (x : SC Γ A env kinds Av₀ own σ f s) {i : Nat} {l : Addr} {its' : Array Value} {ds' : List D} {h' : Heap} (hi : ∃ d, σ i = some (true, d)) (ho : own i = some l) (hs : Heap.SameBut l s.heap h') (hp : PlainL h' l its')
    (hr : RdAll f (AvOf Av₀ own) s.heap its'.toList ds') : SC Γ A env kinds Av₀ own (upd σ i (true, .list ds')) f { s with heap := h' } := by
  have k : KeepX A (fun b => b = l) s.heap h' := .of_but fun b o n e => hs.extBut b o n e
  obtain ⟨nl, navl, its, p⟩ := x.nw i l ho
  have wg : WGood Γ.h₁ (AvOf Av₀ own) (fun b => b = l) s.heap h' := fun b hb => by
    subst hb
    obtain ⟨o, n, e, c, _, d⟩ := p
    obtain ⟨o', n', e', c', _, d'⟩ := hp
    exact ⟨nl, .inr ⟨.inr ⟨i, ho⟩, ⟨o, _, _, e, c, d⟩, o', _, _, e', c', d'⟩⟩
  obtain ⟨d0, hd0⟩ := hi
  refine ⟨x.si.keepG k wg, x.ok.keepG k wg, x.lo, x.ce, fun a ha => ?_, x.wd, fun j dj hj => ?_, fun j dj hj => ?_, fun j a hj => ?_, x.inj, x.fr⟩
  · obtain ⟨o, e⟩ := x.av a ha
    obtain ⟨o', e', _⟩ := k a o (fun q => navl (q ▸ ha)) e
    exact ⟨o', e'⟩
  · unfold upd at hj
    by_cases q : j = i
    · subst q; rw [if_pos rfl] at hj; cases hj
    · rw [if_neg q] at hj
      obtain ⟨u, hu, hru⟩ := x.fz j dj hj
      exact ⟨u, hu.keepG k wg, Rd.keepX k wg.clear (.refl f) dj hru⟩
  · unfold upd at hj
    by_cases q : j = i
    · subst q
      rw [if_pos rfl] at hj; cases hj
      obtain ⟨l', its₀, ds₀, _, b, c, _⟩ := x.ow j d0 hd0
      rw [ho] at b; cases b
      exact ⟨l, its', ds', rfl, ho, c.keepG k wg, hp, RdAll.keepX k wg.clear (.refl f) _ hr⟩
    · rw [if_neg q] at hj
      obtain ⟨a, its₀, ds₀, e1, b, c, p₀, r⟩ := x.ow j dj hj
      refine ⟨a, its₀, ds₀, e1, b, c.keepG k wg, plKeep p₀ k fun e => q (x.inj j i l (e ▸ b) ho), RdAll.keepX k wg.clear (.refl f) _ r⟩
  · obtain ⟨a1, b, its₀, p₀⟩ := x.nw j a hj
    by_cases e : a = l
    · subst e; exact ⟨a1, b, its', hp⟩
    · exact ⟨a1, b, its₀, plKeep p₀ k e⟩
end
end Mine
end

section
namespace Mine
open PySem PySem.W PyProof.Rows

noncomputable def FlOk (f : TokMap) (Av₀ : Addr → Prop) (h : Heap) : Fl → Flow → Prop
  | .next, fl => fl = .next
  | .brk, fl => fl = .brk
  | .ret d, fl => ∃ v, fl = .ret v ∧ Rd f Av₀ h v d
/-- what a statement may turn -/
noncomputable def WSt (env : Env) (own : Nat → Option Addr) : Addr → Prop := fun b => (∃ x, WS env x b) ∨ ∃ i, own i = some b
noncomputable def SOut (Γ : Ctxt) (A : Around) (env : Env) (kinds : List (Str × NameKind)) (Av₀ : Addr → Prop) (own : Nat → Option Addr) (s : Shared) (f : TokMap) (σ' : St) (fl : Fl) (flow : Flow) (s' : Shared) : Prop :=
  Ex4 fun (own' : Nat → Option Addr) (f' : TokMap) (h' : Heap) (tk : Nat) => And7 (s' = { s with heap := h', toks := tk }) (s.toks ≤ tk) (Ext f f') (SC Γ A env kinds Av₀ own' σ' f' s') (KeepX A (WSt env own) s.heap h') (∀ i l, own' i = some l → (∃ j, own j = some l) ∨ s.heap.get? l = none) (FlOk f' Av₀ h' fl flow)

noncomputable def SX (Γ : Ctxt) (kinds : List (Str × NameKind)) (st : S) : Prop := ∀ (σ σ' : St) (fl : Fl), exS Γ.tab Γ.G st σ = some (σ', fl) → ∀ (A : Around) (env : Env) (s : Shared) (f : TokMap) (Av₀ : Addr → Prop) (own : Nat → Option Addr) (E : Value → Shared → Prop),
  AOk Γ.lvl A → SC Γ A env kinds Av₀ own σ f s → wpAny (model Γ.prog Γ.w) A (exec (st.toE Γ.tab) env) (SOut Γ A env kinds Av₀ own s f σ' fl) E s
noncomputable def SXs (Γ : Ctxt) (kinds : List (Str × NameKind)) (st : Ss) : Prop := ∀ (σ σ' : St) (fl : Fl), exs Γ.tab Γ.G st σ = some (σ', fl) → ∀ (A : Around) (env : Env) (s : Shared) (f : TokMap) (Av₀ : Addr → Prop) (own : Nat → Option Addr) (E : Value → Shared → Prop),
  AOk Γ.lvl A → SC Γ A env kinds Av₀ own σ f s → wpAny (model Γ.prog Γ.w) A (execs (st.toE Γ.tab) env) (SOut Γ A env kinds Av₀ own s f σ' fl) E s

section
variable {Γ : Ctxt} {kinds : List (Str × NameKind)} {A : Around} {env : Env} {s s₁ : Shared} {f f₁ : TokMap} {Av₀ : Addr → Prop} {own : Nat → Option Addr} {σ σ' : St} {E : Value → Shared → Prop} {e : C} {d : D}

theorem SOut.trans {own₁ : Nat → Option Addr} {h₁ : Heap} {tk₁ : Nat} {fl : Fl} {flow : Flow} {s' : Shared} (ht : s.toks ≤ tk₁) (ex : Ext f f₁) (k : KeepX A (WSt env own) s.heap h₁) (ho : ∀ i l, own₁ i = some l → (∃ j, own j = some l) ∨ s.heap.get? l = none)
    (r : SOut Γ A env kinds Av₀ own₁ { s with heap := h₁, toks := tk₁ } f₁ σ' fl flow s') : SOut Γ A env kinds Av₀ own s f σ' fl flow s' := by
  obtain ⟨own', f', h', tk, rfl, ht', ex', sc, k', ho', fo⟩ := r
  have ht'' : tk₁ ≤ tk := ht'
  refine ⟨own', f', h', tk, rfl, Nat.le_trans ht ht'', ex.trans ex', sc, k.trans' k' fun b o n e => ?_, fun i l hi => ?_, fo⟩
  · rintro (q | ⟨i, q⟩)
    · exact n (.inl q)
    · rcases ho i b q with q | q
      · exact n (.inr q)
      · rw [q] at e; cases e
  · rcases ho' i l hi with ⟨j, q⟩ | q
    · exact ho j l q
    · cases z : s.heap.get? l with
      | none => exact .inr rfl
      | some o =>
        by_cases wl : WSt env own l
        · rcases wl with ⟨x, w⟩ | w
          · obtain ⟨_, _, its, p⟩ := sc.nw i l hi
            exact absurd w (ws_noPlain sc.ok p)
          · exact .inl w
        · obtain ⟨o', e', _⟩ := k l o wl z
          have q' : h₁.get? l = none := q
          rw [q'] at e'; cases e'

theorem wst_of_ws {x : Str} {b : Addr} (h : WS env x b) : WSt env own b := .inl ⟨x, h⟩

/-- an expression has been evaluated -/
theorem evalF (hs : SE Γ kinds e) (h : ev Γ.tab Γ.G e σ.frozen = some d) (ao : AOk Γ.lvl A) (x : SC Γ A env kinds Av₀ own σ f s) {Q : Value → Shared → Prop}
    (hQ : ∀ v h' tk f₁, s.toks ≤ tk → Keep A s.heap h' → Ext f f₁ → SC Γ A env kinds Av₀ own σ f₁ { s with heap := h', toks := tk } → Rd f₁ (AvOf Av₀ own) h' v d → Q v { s with heap := h', toks := tk }) :
    wpAny (model Γ.prog Γ.w) A (eval (e.toE Γ.tab) env) Q E s :=
  withToks (wpAny_mono (hs _ d h A env s f _ E ao x.frozen) (fun v s₁ ⟨k, f₁, ex, wd, r⟩ ht => by
    have y := x.keep k ex wd
    obtain ⟨h', tk, rfl, kk⟩ := k
    exact hQ v h' tk f₁ ht kk ex y r) fun _ _ q => q)
theorem evalU (hs : SE Γ kinds e) (h : ev Γ.tab Γ.G e σ.full = some d) (ao : AOk Γ.lvl A) (x : SC Γ A env kinds Av₀ own σ f s) {Q : Value → Shared → Prop}
    (hQ : ∀ v h' tk f₁, s.toks ≤ tk → Keep A s.heap h' → Ext f f₁ → SC Γ A env kinds Av₀ own σ f₁ { s with heap := h', toks := tk } → Rd f₁ Av₀ h' v d → Q v { s with heap := h', toks := tk }) :
    wpAny (model Γ.prog Γ.w) A (eval (e.toE Γ.tab) env) Q E s :=
  withToks (wpAny_mono (hs _ d h A env s f _ E ao x.full) (fun v s₁ ⟨k, f₁, ex, wd, r⟩ ht => by
    have y := x.keep k ex wd
    obtain ⟨h', tk, rfl, kk⟩ := k
    exact hQ v h' tk f₁ ht kk ex y r) fun _ _ q => q)
theorem evalK (hs : SE Γ kinds e) (h : evK (ev Γ.tab Γ.G e) σ = some d) (ao : AOk Γ.lvl A) (x : SC Γ A env kinds Av₀ own σ f s) {Q : Value → Shared → Prop}
    (hQ : ∀ v h' tk f₁, s.toks ≤ tk → Keep A s.heap h' → Ext f f₁ → SC Γ A env kinds Av₀ own σ f₁ { s with heap := h', toks := tk } → Rd f₁ (AvOf Av₀ own) h' v d → Q v { s with heap := h', toks := tk }) :
    wpAny (model Γ.prog Γ.w) A (eval (e.toE Γ.tab) env) Q E s := by
  unfold evK at h
  split at h
  · rename_i d' hd
    cases h
    exact evalF hs hd ao x hQ
  · split at h
    · rename_i d' hd
      split at h
      · rename_i hsc
        cases h
        exact evalU hs hd ao x fun v h' tk f₁ ht k ex y r => hQ v h' tk f₁ ht k ex y (r.scalar hsc)
      · cases h
    · cases h

theorem load_at (T : TabOk Γ.tab) (ok : EnvOk env kinds s.heap) {i : Nat} {v : Value} {Q : Value → Shared → Prop} (hv : VarAt env s.heap (Γ.tab i) v) (h : Q v s) : wpAny (model Γ.prog Γ.w) A (loadName env (Γ.tab i)) Q E s := by
  rcases hv with ⟨hk, m, hn, hm⟩ | ⟨hk, c, hc, hcell⟩
  · exact wpAny_loadName_local ok.kind hk hn hm h
  · rcases hk with hk | hk
    · exact wpAny_loadName_cell ok.kind hk hc hcell h
    · exact wpAny_loadName_free ok.kind hk hc hcell h (T.cld i)
theorem name_at (T : TabOk Γ.tab) (ok : EnvOk env kinds s.heap) {i : Nat} {p : Pos} {v : Value} {Q : Value → Shared → Prop} (hv : VarAt env s.heap (Γ.tab i) v) (h : Q v s) : wpAny (model Γ.prog Γ.w) A (eval (.Name (Γ.tab i) p) env) Q E s :=
  wpAny_Name (load_at T ok hv h) (T.dbg i)

theorem SC.freeze (x : SC Γ A env kinds Av₀ own σ f s) {i : Nat} {ds : List D} (hi : σ i = some (true, .list ds)) : SC Γ A env kinds Av₀ (drop1 own i) (upd σ i (false, .list ds)) f s := by
  obtain ⟨l, its, ds', e1, hl, hv, p, r⟩ := x.ow i _ hi
  cases e1
  refine ⟨x.si, x.ok, x.lo, x.ce, x.av, x.wd, fun j dj hj => ?_, fun j dj hj => ?_, fun j a hj => x.nw j a (drop1_some hj).1, fun j j' a h1 h2 => x.inj j j' a (drop1_some h1).1 (drop1_some h2).1, x.fr⟩
  · unfold upd at hj
    by_cases q : j = i
    · subst q
      rw [if_pos rfl] at hj; cases hj
      refine ⟨.ref l, hv, l, its, rfl, ?_, p.isList, RdAll.weaken (fun a => avOf_drop1) _ r⟩
      rintro (q | ⟨k, q⟩)
      · exact (x.nw j l hl).2.1 q
      · exact (drop1_some q).2 (x.inj k j l (drop1_some q).1 hl)
    · rw [if_neg q] at hj
      obtain ⟨u, hu, hr⟩ := x.fz j dj hj
      exact ⟨u, hu, Rd.weaken (fun a => avOf_drop1) _ hr⟩
  · unfold upd at hj
    by_cases q : j = i
    · subst q; rw [if_pos rfl] at hj; cases hj
    · rw [if_neg q] at hj
      obtain ⟨a, its', ds', e1, b, c, p', r'⟩ := x.ow j dj hj
      exact ⟨a, its', ds', e1, by unfold drop1; rw [if_neg q]; exact b, c, p', RdAll.weaken (fun a => avOf_drop1) _ r'⟩

/-! the statements -/
theorem sx_ret {p : Pos} (he : SE Γ kinds e) : SX Γ kinds (.ret e p) := fun σ σ' fl h A env s f Av₀ own E ao x => by
  simp only [exS_e1, exS_e2, exS_e3, exS_e4, exS_e5, exS_e6, exS_e7, exS_e8, exS_e9, exS_e10, exS_e11, exS_e12, exS_e13] at h
  obtain ⟨d, hd, h⟩ := Option.map_eq_some_iff.mp h
  cases h
  exact wpAny_Return_some (evalU he hd ao x fun v h' tk f₁ ht k ex y r => ⟨own, f₁, h', tk, rfl, ht, ex, y, .of_keep k, fun i l hi => .inl ⟨i, hi⟩, v, rfl, r⟩)
theorem sxs_nil : SXs Γ kinds .nil := fun σ σ' fl h A env s f Av₀ own E ao x => by
  simp only [exs_e1, exs_e2] at h
  cases h
  exact wpAny_execs_nil ⟨own, f, s.heap, s.toks, rfl, Nat.le_refl _, .refl f, x, .refl, fun i l hi => .inl ⟨i, hi⟩, rfl⟩
theorem sxs_cons {st : S} {r : Ss} (h1 : SX Γ kinds st) (h2 : SXs Γ kinds r) : SXs Γ kinds (.cons st r) := fun σ σ' fl h A env s f Av₀ own E ao x => by
  simp only [exs_e1, exs_e2] at h
  refine wpAny_execs_cons ?_
  cases hs : exS Γ.tab Γ.G st σ with
  | none => rw [hs] at h; cases h
  | some p =>
    obtain ⟨σ₁, fl₁⟩ := p
    rw [hs] at h
    refine wpAny_mono (h1 σ σ₁ fl₁ hs A env s f Av₀ own E ao x) (fun flow s₁ out => ?_) fun _ _ q => q
    cases fl₁ with
    | next =>
      obtain ⟨own', f', h', tk, rfl, ht, ex, sc, k, ho, rfl⟩ := out
      exact wpAny_mono (h2 σ₁ σ' fl h A env _ f' Av₀ own' E ao sc) (fun flow s₂ o2 => o2.trans ht ex k ho) fun _ _ q => q
    | brk =>
      cases h
      have hf : flow = .brk := by obtain ⟨_, _, _, _, _, _, _, _, _, _, q⟩ := out; exact q
      subst hf; exact out
    | ret d =>
      cases h
      have hf : ∃ v, flow = .ret v := by obtain ⟨_, _, _, _, _, _, _, _, _, _, v, q, _⟩ := out; exact ⟨v, q⟩
      obtain ⟨v, rfl⟩ := hf; exact out
theorem sx_ite {t : C} {a b : Ss} {p : Pos} (ht : SB Γ kinds t) (ha : SXs Γ kinds a) (hb : SXs Γ kinds b) : SX Γ kinds (.ite t a b p) := fun σ σ' fl h A env s f Av₀ own E ao x => by
  simp only [exS_e1, exS_e2, exS_e3, exS_e4, exS_e5, exS_e6, exS_e7, exS_e8, exS_e9, exS_e10, exS_e11, exS_e12, exS_e13] at h
  obtain ⟨c, hc, h⟩ := Option.bind_eq_some_iff.mp h
  refine wpAny_If (withToks (wpAny_mono (ht _ c hc A env s f _ E ao x.full) (fun c' s₁ ⟨q, k, f₁, ex, wd⟩ htk => ?_) fun _ _ q => q))
  subst q
  have y := x.keep k ex wd
  obtain ⟨h', tk, rfl, kk⟩ := k
  have tr : ∀ flow s₂, SOut Γ A env kinds Av₀ own { s with heap := h', toks := tk } f₁ σ' fl flow s₂ → SOut Γ A env kinds Av₀ own s f σ' fl flow s₂ := fun flow s₂ o => o.trans htk ex (.of_keep kk) fun i l hi => .inl ⟨i, hi⟩
  cases c' with
  | true => exact wpAny_mono (ha σ σ' fl (by simpa using h) A env _ f₁ Av₀ own E ao y) tr fun _ _ q => q
  | false => exact wpAny_mono (hb σ σ' fl (by simpa using h) A env _ f₁ Av₀ own E ao y) tr fun _ _ q => q

noncomputable def isComp : C → Bool
  | .comp .. => true
  | _ => false
/-- the store of a value read just now -/
theorem storeNow (ok : Γ.Ok) {i : Nat} {v : Value} (x : SC Γ A env kinds Av₀ own σ f s) {h' : Heap} {tk : Nat} {f₁ : TokMap} (ht : s.toks ≤ tk) (k : Keep A s.heap h') (ex : Ext f f₁) (y : SC Γ A env kinds Av₀ own σ f₁ { s with heap := h', toks := tk })
    (r : Rd f₁ (AvOf Av₀ own) h' v d) (hk : storable kinds (Γ.tab i) = true) {Q : Unit → Shared → Prop} (hQ : ∀ s', SOut Γ A env kinds Av₀ own s f (upd σ i (false, d)) .next .next s' → Q () s') :
    wpAny (model Γ.prog Γ.w) A (storeName env (Γ.tab i) v) Q E { s with heap := h', toks := tk } := by
  refine SC.storeF ok y (Rd.weaken (fun a => avOf_drop1) _ r) hk fun h'' tk' ht' k' z => hQ _ ?_
  exact ⟨drop1 own i, f₁, h'', tk', rfl, Nat.le_trans ht ht', ex, z, (KeepX.of_keep k).trans (KeepX.weaken k' fun b o e q => wst_of_ws q), fun j l hj => .inl ⟨j, (drop1_some hj).1⟩, rfl⟩

theorem sx_assign_plain (ok : Γ.Ok) {i : Nat} {px p : Pos} (hn : isComp e = false) (hk : storable kinds (Γ.tab i) = true) (he : SE Γ kinds e) : SX Γ kinds (.assign i e px p) := fun σ σ' fl h A env s f Av₀ own E ao x => by
  simp only [exS_e1, exS_e2, exS_e3, exS_e4, exS_e5, exS_e6, exS_e7, exS_e8, exS_e9, exS_e10, exS_e11, exS_e12, exS_e13] at h
  obtain ⟨d, hd, h⟩ := Option.map_eq_some_iff.mp h
  cases h
  refine wpAny_Assign_Name (evalK he hd ao x fun v h' tk f₁ ht k ex y r => storeNow ok x ht k ex y r hk fun s' o => o) ?_
  cases e <;> first | rfl | cases hn

theorem sx_own (ok : Γ.Ok) {i : Nat} {es : Cs} {pe px p : Pos} (hk : storable kinds (Γ.tab i) = true) (he : SEs Γ kinds es) : SX Γ kinds (.own i es pe px p) := fun σ σ' fl h A env s f Av₀ own E ao x => by
  simp only [exS_e1, exS_e2, exS_e3, exS_e4, exS_e5, exS_e6, exS_e7, exS_e8, exS_e9, exS_e10, exS_e11, exS_e12, exS_e13] at h
  obtain ⟨ds, hds, h⟩ := Option.bind_eq_some_iff.mp h
  split at h
  · rename_i hsz
    cases h
    refine wpAny_Assign_Name (List_ (withToks (wpAny_mono (he _ ds hds A env s f _ E pe ao x.frozen) (fun vs s₁ ⟨k, f₁, ex, wd, r⟩ ht => ?_) fun _ _ q => q))) rfl
    have y := x.keep k ex wd
    obtain ⟨h', tk, rfl, kk⟩ := k
    refine wpAny_newObj_type ?_ (by show vs.toArray.size ≤ sizeLine; rw [List.size_toArray, r.length]; have := lim_le; omega)
    refine SC.storeO ok y r hk fun h'' tk' ht' k' z => ?_
    refine ⟨_, f₁, h'', tk', rfl, Nat.le_trans ht ht', ex, z, (KeepX.of_keep kk).trans (KeepX.weaken k' fun b o e q => wst_of_ws q), fun j l hj => ?_, rfl⟩
    unfold put1 at hj
    split at hj
    · cases hj
      refine .inr ?_
      cases q : s.heap.get? h'.objs.size with
      | none => rfl
      | some o =>
        obtain ⟨o', e', _⟩ := kk _ o (fun q => q) q
        exact absurd (Heap.lt_size e') (Nat.lt_irrefl _)
    · exact .inl ⟨j, hj⟩
  · cases h

/-- an own list has turned just now -/
theorem turnNow {i : Nat} {l : Addr} {its' : Array Value} {ds ds' : List D} {h' h'' : Heap} {tk : Nat} (ht : s.toks ≤ tk) (k : Keep A s.heap h') (ex : Ext f f₁) (y : SC Γ A env kinds Av₀ own σ f₁ { s with heap := h', toks := tk })
    (hi : σ i = some (true, .list ds)) (ho : own i = some l) (hs : Heap.SameBut l h' h'') (hp : PlainL h'' l its') (hr : RdAll f₁ (AvOf Av₀ own) h' its'.toList ds') :
    SOut Γ A env kinds Av₀ own s f (upd σ i (true, .list ds')) .next .next { s with heap := h'', toks := tk } := by
  have z := y.turn ⟨_, hi⟩ ho hs hp hr
  exact ⟨own, f₁, h'', tk, rfl, ht, ex, z, (KeepX.of_keep k).trans (.of_but fun b o n e => hs.extBut b o (fun q => n (.inr ⟨i, by rw [q]; exact ho⟩)) e), fun j l hj => .inl ⟨j, hj⟩, rfl⟩

theorem noInteractive (h : env.scope.kind = .function) : interactive env = false := by unfold interactive; rw [h]; rfl

theorem sx_append (ok : Γ.Ok) {i : Nat} {px pa p : Pos} (hline : (pa.endLine == p.line) = true) (he : SE Γ kinds e) : SX Γ kinds (.append i e px pa p) := fun σ σ' fl h A env s f Av₀ own E ao x => by
  simp only [exS_e1, exS_e2, exS_e3, exS_e4, exS_e5, exS_e6, exS_e7, exS_e8, exS_e9, exS_e10, exS_e11, exS_e12, exS_e13] at h
  obtain ⟨d, hd, h⟩ := Option.bind_eq_some_iff.mp h
  split at h
  · rename_i ds hσ
    split at h
    · rename_i hsz
      cases h
      obtain ⟨l, its, ds', e1, hl, hv, hp, hr⟩ := x.ow i _ hσ
      cases e1
      refine wpAny_Expr (wpAny_Call_append rfl (by cases e <;> rfl) hline (back_cons Γ.tab e .nil p env) (name_at ok.T x.ok hv ⟨l, its, rfl, hp, ?_⟩)) (noInteractive x.ok.kind) rfl
      refine evalK he hd ao x fun v h₁ tk₁ f₁ ht k₁ ex y r => ?_
      have hp' := plKeep hp k₁ (fun q => q)
      have hr' := hr.keep k₁ ex
      have hlen := hr'.length
      rw [Array.length_toList] at hlen
      refine list_append_plainL (s := { s with heap := h₁, toks := tk₁ }) hp' (fun h₂ hp₂ hs₂ => ?_) (by have := lim_le; omega)
      refine turnNow (h' := h₁) ht k₁ ex y hσ hl hs₂ hp₂ ?_
      rw [Array.toList_push]
      exact RdAll.append (.one r) hr'
    · cases h
  · cases h

theorem sx_extend (ok : Γ.Ok) {i : Nat} {px pa p : Pos} (hline : (pa.endLine == p.line) = true) (he : SE Γ kinds e) : SX Γ kinds (.extend i e px pa p) := fun σ σ' fl h A env s f Av₀ own E ao x => by
  simp only [exS_e1, exS_e2, exS_e3, exS_e4, exS_e5, exS_e6, exS_e7, exS_e8, exS_e9, exS_e10, exS_e11, exS_e12, exS_e13] at h
  obtain ⟨d, hd, h⟩ := Option.bind_eq_some_iff.mp h
  split at h
  · rename_i es
    split at h
    · rename_i ds hσ
      split at h
      · rename_i hsz
        cases h
        obtain ⟨l, its, ds', e1, hl, hv, hp, hr⟩ := x.ow i _ hσ
        cases e1
        refine wpAny_Expr (wpAny_Call_method (T := "list") (id := "list.extend") rfl (by cases e <;> rfl) hline PySem.F.plainAttrs_list PySem.F.slot_list_extend PySem.F.type_list_extend (name_at ok.T x.ok hv ⟨hp.isList.typeIs, fun a ha => ?_, ?_⟩)) (noInteractive x.ok.kind) rfl
        · cases ha
          obtain ⟨o, n, e1, c, dn, dd⟩ := hp
          exact ⟨o, e1, dn⟩
        · refine Calls.callWith_builtin (back_plain Γ.tab p env (.cons e .nil)) ?_
          have e0 : backTo p (starEach [e.toE Γ.tab] env) = [(false, eval (e.toE Γ.tab) env)] := back_cons Γ.tab e .nil p env
          rw [e0]
          refine Calls.evalArgs_plain (Calls.spliced_cons (evalF he hd ao x fun v h₁ tk₁ f₁ ht k₁ ex y r => Calls.spliced_nil ?_))
          obtain ⟨b, jts, rfl, hb, hlb, rb⟩ := r
          have hp' := plKeep hp k₁ (fun q => q)
          have hr' := hr.keep k₁ ex
          have hlen := hr'.length
          have hlen2 := rb.length
          rw [Array.length_toList] at hlen hlen2
          refine extend_plain (s := { s with heap := h₁, toks := tk₁ }) hp' hlb (by omega) fun h₂ hp₂ hs₂ => ?_
          refine turnNow (h' := h₁) ht k₁ ex y hσ hl hs₂ hp₂ ?_
          rw [Array.toList_append]
          exact RdAll.append rb hr'
      · cases h
    · cases h
  · cases h

theorem sx_aug (ok : Γ.Ok) {i : Nat} {px p : Pos} (hk : storable kinds (Γ.tab i) = true) (he : SE Γ kinds e) : SX Γ kinds (.aug i e px p) := fun σ σ' fl h A env s f Av₀ own E ao x => by
  simp only [exS_e1, exS_e2, exS_e3, exS_e4, exS_e5, exS_e6, exS_e7, exS_e8, exS_e9, exS_e10, exS_e11, exS_e12, exS_e13] at h
  split at h
  · rename_i d₀ hσ
    obtain ⟨a, ha, h⟩ := Option.bind_eq_some_iff.mp h
    obtain ⟨d, hd, h⟩ := Option.bind_eq_some_iff.mp h
    obtain ⟨b, hb, h⟩ := Option.map_eq_some_iff.mp h
    cases h
    obtain ⟨v₀, hv, hr⟩ := x.fz i d₀ hσ
    obtain ⟨t₀, rfl⟩ := hr.num ha
    refine wpAny_AugAssign_Name (load_at ok.T x.ok hv (evalF he hd ao x fun v h₁ tk₁ f₁ ht k₁ ex y r => ?_))
    obtain ⟨t, rfl⟩ := r.num hb
    refine PyProof.Rows.iadd_int ?_
    have g : Got A f₁ (AvOf Av₀ own) { s with heap := h₁, toks := tk₁ } (.int (a + b)) (.int (a + b) tk₁) { s with heap := h₁, toks := tk₁ + 1 } := .int .tok y.wd (Nat.le_refl _) (Nat.lt_succ_self _)
    obtain ⟨kk, f₂, ex₂, wd₂, r₂⟩ := g
    have y₂ := y.keep kk ex₂ wd₂
    refine storeNow (h' := h₁) (tk := tk₁ + 1) ok x (Nat.le_trans ht (Nat.le_succ _)) k₁ (ex.trans ex₂) y₂ r₂ hk fun s' o => o
  · cases h
end
end Mine
end

section
namespace Mine
open PySem PySem.W PyProof.Rows

section
variable {Γ : Ctxt} {kinds : List (Str × NameKind)} {A : Around} {env : Env} {s s₁ : Shared} {f f₁ : TokMap} {Av₀ : Addr → Prop} {own : Nat → Option Addr} {σ σ' : St} {E : Value → Shared → Prop} {e : C} {d : D}

/-- objects that none of the state is made of turn -/
theorem SC.keepN (x : SC Γ A env kinds Av₀ own σ f s) {W : Addr → Prop} {h' : Heap} {tk : Nat} (k : KeepX A W s.heap h') (ex : Ext f f₁) (wd : Wd f₁ tk)
    (hW : ∀ b, W b → Γ.h₁.get? b = none ∧ ¬ FS A b ∧ b ≠ env.locals ∧ (∀ n, (env.kindOf n = some .cell ∨ env.kindOf n = some .free) → env.cells.lookup n ≠ some b) ∧ ¬ Av₀ b ∧ (∀ o xs n, s.heap.get? b = some o → o.data ≠ .seq xs n)) :
    SC Γ A env kinds Av₀ own σ f₁ { s with heap := h', toks := tk } := by
  have cl : ∀ Av : Addr → Prop, Clear W Av s.heap := fun Av b o xs n hb e d => absurd d ((hW b hb).2.2.2.2.2 o xs n e)
  have nl : ∀ {l its}, PlainL s.heap l its → ¬ W l := fun p q => by
    obtain ⟨o, n, e, _, _, d⟩ := p
    exact (hW _ q).2.2.2.2.2 o _ _ e d
  have va : ∀ {x v}, VarAt env s.heap x v → VarAt env h' x v := fun q => q.imp
    (fun ⟨a, m, b, c⟩ => ⟨a, m, Heap.Ns.keepX b k (fun q => (hW _ q).2.2.1 rfl), c⟩) fun ⟨a, c, b, d⟩ => ⟨a, c, b, Heap.IsCell.keepX d k (fun q => (hW _ q).2.2.2.1 _ a b)⟩
  refine ⟨?_, ⟨x.ok.kind, x.ok.names, x.ok.globals, x.ok.builtins, let ⟨m, a⟩ := x.ok.ns; ⟨m, Heap.Ns.keepX a k (fun q => (hW _ q).2.2.1 rfl)⟩,
      fun n e => let ⟨c, v, a, b⟩ := x.ok.cells n e; ⟨c, v, a, Heap.IsCell.keepX b k (fun q => (hW _ q).2.2.2.1 _ e a)⟩, x.ok.apart⟩, x.lo, x.ce, fun a ha => ?_, wd,
    fun i d hi => let ⟨v, a, b⟩ := x.fz i d hi; ⟨v, va a, Rd.keepX k (cl _) ex d b⟩,
    fun i d hi => let ⟨l, its, ds, a, b, c, p, r⟩ := x.ow i d hi; ⟨l, its, ds, a, b, va c, plKeep p k (nl p), RdAll.keepX k (cl _) ex _ r⟩,
    fun i l hi => let ⟨a, b, its, p⟩ := x.nw i l hi; ⟨a, b, its, plKeep p k (nl p)⟩, x.inj, x.fr⟩
  · obtain ⟨fr, hf, hF⟩ := x.si.fr
    refine ⟨fun b o e => ?_, fr, hf, ?_⟩
    · have nW : ¬ W b := fun q => by rw [(hW b q).1] at e; cases e
      obtain ⟨o', e', q, _⟩ := k b o nW (x.si.base b o e)
      rw [q (x.si.notFS e)] at e'; exact e'
    · have hfs : ∀ env' ∈ fr, ∀ b, env'.frame = some b → ¬ W b := fun env' hm b hb q => (hW b q).2.1 ⟨fr, env', hf, hm, hb⟩
      clear hf
      induction fr with
      | nil => trivial
      | cons env' r ih =>
        obtain ⟨hk, ⟨L, o, hf, hn', ho, hd⟩, hr⟩ := hF
        refine ⟨hk, ?_, ih hr fun e hm => hfs e (List.mem_cons_of_mem _ hm)⟩
        obtain ⟨o', e', _, d'⟩ := k.data (hfs env' (List.mem_cons_self ..) L hf) ho
        exact ⟨L, o', hf, hn', e', fun vs => by rw [d']; exact hd vs⟩
  · obtain ⟨o, e⟩ := x.av a ha
    obtain ⟨o', e', _⟩ := k a o (fun q => (hW _ q).2.2.2.2.1 ha) e
    exact ⟨o', e'⟩

theorem new_notFS {h₁ h : Heap} (si : SI h₁ A h) {b : Addr} (e : h.get? b = none) : ¬ FS A b := by
  rintro ⟨fr, env', hf, hm, hb⟩
  obtain ⟨fr', hf', hF⟩ := si.fr
  rw [hf] at hf'; cases hf'
  obtain ⟨_, o, eo, _⟩ := funFrames_mem hF env' hm b hb
  rw [e] at eo; cases eo

structure CompOk (Γ : Ctxt) (kinds : List (Str × NameKind)) (elt : C) (t : Tgt) (it : It) (ifs : Cs) (r : Gs) (sc : Scope) : Prop where
  hw : wfScope kinds sc = true
  hit : SIt Γ kinds it
  hen : isEnumIt it = true → isTup t = true
  helt : SE Γ (innerKinds kinds sc) elt
  h2 : SIfs Γ (innerKinds kinds sc) ifs
  h4 : ∀ i ∈ t.is, ownName sc (Γ.tab i) = true
  h5 : ∀ i ∈ t.is, i ∉ r.targets
  h6 : SGs Γ (innerKinds kinds sc) sc r
  h7 : ∀ i ∈ r.targets, ownName sc (Γ.tab i) = true
theorem compOk (ok : Γ.Ok) {elt : C} {t : Tgt} {it : It} {ifs : Cs} {r : Gs} {sc : Scope} {p : Pos} (h : wfC Γ.tab (.comp elt (.gen t it ifs r) sc p) kinds = true) : CompOk Γ kinds elt t it ifs r sc := by
  simp only [wfC_e1, wfC_e2, wfC_e3, wfC_e4, wfC_e5, wfC_e6, wfC_e7, wfC_e8, wfC_e9, wfC_e10, wfC_e11, wfC_e12, wfC_e13, wfC_e14, wfC_e15, wfC_e16, wfC_e17, wfC_e18, wfC_e19, wfC_e20, wfC_e21, wfC_e22, wfC_e23, wfC_e24, wfC_e25, wfC_e26, wfC_e27, wfC_e28, Bool.and_eq_true, List.all_eq_true, Bool.or_eq_true, Bool.not_eq_true'] at h
  obtain ⟨⟨⟨⟨⟨⟨⟨h1, h2⟩, h3⟩, h4⟩, h5⟩, h6⟩, h7⟩, h8⟩ := h
  exact ⟨h1, soundIt ok it _ h2, fun q => h3.elim (fun z => by rw [q] at z; cases z) id, (soundC ok elt _ h4).1, (soundCs ok ifs _ h5).2, fun i hi => (h6 i hi).1, (fun i hi q => by
      have := (h6 i hi).2; rw [List.contains_iff_mem.mpr q] at this; cases this), soundGs ok sc r _ h7, h8⟩

theorem sx_assign_comp (ok : Γ.Ok) {i : Nat} {px p pc : Pos} {elt : C} {t : Tgt} {it : It} {ifs : Cs} {r : Gs} {sc : Scope} (co : CompOk Γ kinds elt t it ifs r sc) (hk : storable kinds (Γ.tab i) = true) :
    SX Γ kinds (.assign i (.comp elt (.gen t it ifs r) sc pc) px p) := fun σ σ' fl h A env s f Av₀ own E ao x => by
  simp only [exS_e1, exS_e2, exS_e3, exS_e4, exS_e5, exS_e6, exS_e7, exS_e8, exS_e9, exS_e10, exS_e11, exS_e12, exS_e13] at h
  obtain ⟨d, hd, h⟩ := Option.map_eq_some_iff.mp h
  cases h
  have hse : SE Γ kinds (.comp elt (.gen t it ifs r) sc pc) := se_comp ok co.hw co.hit co.hen co.helt co.h2 co.h4 co.h5 co.h6 co.h7
  have hfz : ev Γ.tab Γ.G (.comp elt (.gen t it ifs r) sc pc) σ.frozen = some d := by
    unfold evK at hd
    split at hd
    · rename_i d' hd'; cases hd; exact hd'
    · split at hd
      · rename_i d' hd'
        simp only [ev_e1, ev_e2, ev_e3, ev_e4, ev_e5, ev_e6, ev_e7, ev_e8, ev_e9, ev_e10, ev_e11, ev_e12, ev_e13, ev_e14, ev_e15, ev_e16, ev_e17, ev_e18, ev_e19, ev_e20, ev_e21, ev_e22, ev_e23, ev_e24, ev_e25, ev_e26, ev_e27, ev_e28] at hd'
        obtain ⟨ds, _, hd'⟩ := Option.bind_eq_some_iff.mp hd'
        obtain ⟨bs, _, hd'⟩ := Option.bind_eq_some_iff.mp hd'
        obtain ⟨_, rfl⟩ := mkList_inv hd'
        simp [scalar] at hd
      · cases hd
  obtain ⟨b, hb⟩ : ∃ b, swapsWith ((C.comp elt (.gen t it ifs r) sc pc).toE Γ.tab) (some (.Name (Γ.tab i) px)) p.line env = pure b := ⟨_, rfl⟩
  cases b with
  | false => exact wpAny_Assign_Name (evalF hse hfz ao x fun v h' tk f₁ ht k ex y r => storeNow ok x ht k ex y r hk fun s' o => o) hb
  | true =>
    show wpAny _ A (exec (.Assign [.Name (Γ.tab i) px] ((C.comp elt (.gen t it ifs r) sc pc).toE Γ.tab) p) env) _ E s
    rw [exec_Assign_Name_used _ _ _ _ hb]
    refine wpAny_bind (wpAny_standAt (wpAny_bind ?_))
    simp only [ev_e1, ev_e2, ev_e3, ev_e4, ev_e5, ev_e6, ev_e7, ev_e8, ev_e9, ev_e10, ev_e11, ev_e12, ev_e13, ev_e14, ev_e15, ev_e16, ev_e17, ev_e18, ev_e19, ev_e20, ev_e21, ev_e22, ev_e23, ev_e24, ev_e25, ev_e26, ev_e27, ev_e28] at hfz
    obtain ⟨ds, hds, hfz⟩ := Option.bind_eq_some_iff.mp hfz
    obtain ⟨bs, hc, hfz⟩ := Option.bind_eq_some_iff.mp hfz
    obtain ⟨hsz, rfl⟩ := mkList_inv hfz
    show wpAny _ A (comprehension (.ListComp (elt.toE Γ.tab) ((Gs.gen t it ifs r).toE Γ.tab) sc pc) sc env _ (newList []) false (eval (it.toE Γ.tab) env) (some (assign (.Name (Γ.tab i) px) env)) >>= fun _ => pure ()) _ E s
    refine wpAny_bind (comp_core (use := some (assign (.Name (Γ.tab i) px) env)) ok ao co.hw co.hit co.hen co.helt co.h2 co.h4 co.h5 co.h6 co.h7 x.frozen hds hc hsz fun h' tk f' C dst its ht ex wd k hC hCD hn hdst hl r => ?_)
    replace r : RdAll f' (AvOf Av₀ own) h' its.toList bs := RdAll.weaken (fun a q => .inl q) _ r
    have y := x.keep (s₁ := { s with heap := h', toks := tk }) ⟨h', tk, rfl, k⟩ ex wd
    have hr : Rd f' (AvOf Av₀ own) h' (.ref dst) (.list bs) := ⟨dst, its, rfl, (fun q => by
      obtain ⟨o, e⟩ := x.frozen.av dst q
      rw [hdst] at e; cases e), hl.isList, r⟩
    refine wpAny_assign_Name (SC.storeF ok y (Rd.weaken (fun a => avOf_drop1) _ hr) hk fun h₂ tk₂ ht₂ k₂ z => ?_)
    obtain ⟨m, hn⟩ := hn
    have hlo : C ≠ env.locals := fun q => by
      obtain ⟨m', o, _, _, e, _⟩ := x.ok.ns
      rw [← q, hC] at e; cases e
    have hce : ∀ n, (env.kindOf n = some .cell ∨ env.kindOf n = some .free) → env.cells.lookup n ≠ some C := fun n q z => by
      obtain ⟨c, v, h1, o, e, _⟩ := x.ok.cells n q
      rw [z] at h1; cases h1
      rw [hC] at e; cases e
    have hnW : ¬ WS env (Γ.tab i) C := by
      rintro (⟨_, q⟩ | ⟨q1, q2⟩)
      · exact hlo q
      · exact hce _ (.inl q1) q2
    have hn₂ : h₂.Ns C m := Heap.Ns.keepX hn k₂ hnW
    refine ⟨m, hn₂, fun h₃ hs₃ => wpAny_pure (wpAny_pure ?_)⟩
    have k₃ : KeepX A (fun b => b = C) h₂ h₃ := .of_but fun b o n e => hs₃.extBut b o n e
    have z₃ := z.keepN (h' := h₃) (tk := tk₂) k₃ (.refl f') z.wd fun b hb => by
      subst hb
      refine ⟨base_none x.si hC, new_notFS x.si hC, hlo, hce, fun q => ?_, fun o xs n e => ?_⟩
      · obtain ⟨o, e⟩ := x.av _ q
        rw [hC] at e; cases e
      · obtain ⟨o', es, ep, ho, hd', _⟩ := hn₂
        rw [ho] at e; cases e
        rw [hd']; simp
    refine ⟨_, f', h₃, tk₂, rfl, Nat.le_trans ht ht₂, ex, z₃, ((KeepX.of_keep k).trans (KeepX.weaken k₂ fun b o e q => wst_of_ws q)).trans' k₃ fun b o n e q => ?_, fun j l hj => .inl ⟨j, (drop1_some hj).1⟩, rfl⟩
    rw [q, hC] at e; cases e

theorem sx_ownComp (ok : Γ.Ok) {i : Nat} {px p pc : Pos} {elt : C} {t : Tgt} {it : It} {ifs : Cs} {r : Gs} {sc : Scope} (co : CompOk Γ kinds elt t it ifs r sc) (hk : storable kinds (Γ.tab i) = true) :
    SX Γ kinds (.ownComp i elt t it ifs r sc pc px p) := fun σ σ' fl h A env s f Av₀ own E ao x => by
  simp only [exS_e1, exS_e2, exS_e3, exS_e4, exS_e5, exS_e6, exS_e7, exS_e8, exS_e9, exS_e10, exS_e11, exS_e12, exS_e13] at h
  obtain ⟨d, hfz, h⟩ := Option.bind_eq_some_iff.mp h
  simp only [ev_e1, ev_e2, ev_e3, ev_e4, ev_e5, ev_e6, ev_e7, ev_e8, ev_e9, ev_e10, ev_e11, ev_e12, ev_e13, ev_e14, ev_e15, ev_e16, ev_e17, ev_e18, ev_e19, ev_e20, ev_e21, ev_e22, ev_e23, ev_e24, ev_e25, ev_e26, ev_e27, ev_e28] at hfz
  obtain ⟨ds, hds, hfz⟩ := Option.bind_eq_some_iff.mp hfz
  obtain ⟨bs, hc, hfz⟩ := Option.bind_eq_some_iff.mp hfz
  obtain ⟨hsz, rfl⟩ := mkList_inv hfz
  cases h
  -- what follows the block
  have after : ∀ (E' : Value → Shared → Prop) h' tk f' C dst its, s.toks ≤ tk → Ext f f' → Wd f' tk → Keep A s.heap h' → s.heap.get? C = none → C ≠ dst → (∃ m, h'.Ns C m) → s.heap.get? dst = none → PlainL h' dst its → RdAll f' (fun a => AvOf Av₀ own a ∨ a = dst) h' its.toList bs →
      wpAny (model Γ.prog Γ.w) A (storeName env (Γ.tab i) (.ref dst)) (fun _ s'' => (∃ m, s''.heap.Ns C m) ∧ (∀ h'', Heap.SameBut C s''.heap h'' → SOut Γ A env kinds Av₀ own s f (upd σ i (true, .list bs)) .next .next { s'' with heap := h'' })) E' { s with heap := h', toks := tk } := by
    intro E' h' tk f' C dst its ht ex wd k hC hCD hn hdst hl rr
    refine SC.storeOK ok x (s₀ := { s with heap := h', toks := tk }) ⟨h', tk, rfl, k⟩ ex wd hdst hl (RdAll.weaken (fun a q => ?_) _ rr) hk fun h₂ tk₂ ht₂ k₂ k₂' z => ?_
    · rcases q with q | ⟨j, q⟩
      · exact .inl (.inl q)
      · unfold put1 at q
        split at q
        · cases q; exact .inr rfl
        · exact .inl (.inr ⟨j, q⟩)
    obtain ⟨m, hn⟩ := hn
    have hlo : C ≠ env.locals := fun q => by
      obtain ⟨m', o, _, _, e, _⟩ := x.ok.ns
      rw [← q, hC] at e; cases e
    have hce : ∀ n, (env.kindOf n = some .cell ∨ env.kindOf n = some .free) → env.cells.lookup n ≠ some C := fun n q z => by
      obtain ⟨c, v, h1, o, e, _⟩ := x.ok.cells n q
      rw [z] at h1; cases h1
      rw [hC] at e; cases e
    have hnW : ¬ WS env (Γ.tab i) C := by
      rintro (⟨_, q⟩ | ⟨q1, q2⟩)
      · exact hlo q
      · exact hce _ (.inl q1) q2
    have hn₂ : h₂.Ns C m := Heap.Ns.keepX hn k₂' hnW
    refine ⟨⟨m, hn₂⟩, fun h₃ hs₃ => ?_⟩
    have k₃ : KeepX A (fun b => b = C) h₂ h₃ := .of_but fun b o n e => hs₃.extBut b o n e
    have z₃ := z.keepN (h' := h₃) (tk := tk₂) k₃ (.refl f') z.wd fun b hb => by
      subst hb
      refine ⟨base_none x.si hC, new_notFS x.si hC, hlo, hce, fun q => ?_, fun o xs n e => ?_⟩
      · obtain ⟨o, e⟩ := x.av _ q
        rw [hC] at e; cases e
      · obtain ⟨o', es, ep, ho, hd', _⟩ := hn₂
        have ho' : h₂.get? b = some o' := ho
        have e' : h₂.get? b = some o := e
        rw [ho'] at e'; cases e'
        rw [hd']; simp
    refine ⟨_, f', h₃, tk₂, rfl, Nat.le_trans ht ht₂, ex, z₃, (KeepX.weaken k₂ fun b o e q => wst_of_ws q).trans' k₃ fun b o n e q => ?_, fun j l hj => ?_, rfl⟩
    · rw [q, hC] at e; cases e
    · unfold put1 at hj
      split at hj
      · cases hj; exact .inr hdst
      · exact .inl ⟨j, hj⟩
  obtain ⟨b, hb⟩ : ∃ b, swapsWith ((C.comp elt (.gen t it ifs r) sc pc).toE Γ.tab) (some (.Name (Γ.tab i) px)) p.line env = pure b := ⟨_, rfl⟩
  show wpAny _ A (exec (.Assign [.Name (Γ.tab i) px] ((C.comp elt (.gen t it ifs r) sc pc).toE Γ.tab) p) env) _ E s
  cases b with
  | false =>
    refine wpAny_Assign_Name ?_ hb
    show wpAny _ A (eval (.ListComp (elt.toE Γ.tab) ((Gs.gen t it ifs r).toE Γ.tab) sc pc) env) _ E s
    rw [eval_ListComp]
    refine comp_core (use := none) ok ao co.hw co.hit co.hen co.helt co.h2 co.h4 co.h5 co.h6 co.h7 x.frozen hds hc hsz fun h' tk f' C dst its ht ex wd k hC hCD hn hdst hl rr => ?_
    obtain ⟨m, hm⟩ := id hn
    refine ⟨m, hm, fun h'' hs => ?_⟩
    have kC : KeepX A (fun b => b = C) h' h'' := .of_but fun b o n e => hs.extBut b o n e
    have clC : Clear (fun b => b = C) (fun a => AvOf Av₀ own a ∨ a = dst) h' := fun b o xs n hb e d => by
      subst hb
      obtain ⟨o', es, ep, ho, hd', _⟩ := hm
      rw [ho] at e; cases e
      rw [hd'] at d; cases d
    have hnew : ∀ b, b = C → s.heap.get? b = none := fun b q => by rw [q]; exact hC
    have kA : Keep A s.heap h'' := k.trans' kC fun b o _ e q => by rw [hnew b q] at e; cases e
    refine SC.storeOK ok x (s₀ := { s with heap := h'', toks := tk }) ⟨h'', tk, rfl, kA⟩ ex wd hdst (plKeep hl kC (Ne.symm hCD)) (RdAll.weaken (fun a q => ?_) _ (RdAll.keepX kC clC (.refl f') _ rr)) hk fun h₂ tk₂ ht₂ k₂ k₂' z => ?_
    · rcases q with q | ⟨j, q⟩
      · exact .inl (.inl q)
      · unfold put1 at q
        split at q
        · cases q; exact .inr rfl
        · exact .inl (.inr ⟨j, q⟩)
    · refine ⟨_, f', h₂, tk₂, rfl, Nat.le_trans ht ht₂, ex, z, KeepX.weaken k₂ fun b o e q => wst_of_ws q, fun j l hj => ?_, rfl⟩
      unfold put1 at hj
      split at hj
      · cases hj; exact .inr hdst
      · exact .inl ⟨j, hj⟩
  | true =>
    rw [exec_Assign_Name_used _ _ _ _ hb]
    refine wpAny_bind (wpAny_standAt (wpAny_bind ?_))
    show wpAny _ A (comprehension (.ListComp (elt.toE Γ.tab) ((Gs.gen t it ifs r).toE Γ.tab) sc pc) sc env _ (newList []) false (eval (it.toE Γ.tab) env) (some (assign (.Name (Γ.tab i) px) env)) >>= fun _ => pure ()) _ E s
    refine wpAny_bind (comp_core (use := some (assign (.Name (Γ.tab i) px) env)) ok ao co.hw co.hit co.hen co.helt co.h2 co.h4 co.h5 co.h6 co.h7 x.frozen hds hc hsz fun h' tk f' C dst its ht ex wd k hC hCD hn hdst hl r => ?_)
    exact wpAny_assign_Name (wpAny_mono (after E h' tk f' C dst its ht ex wd k hC hCD hn hdst hl r) (fun _ s'' ⟨⟨m, hm⟩, q⟩ => ⟨m, hm, fun h₃ hs₃ => wpAny_pure (wpAny_pure (q h₃ hs₃))⟩) fun _ _ q => q)

/-! loops -/
theorem assignAllS (ok : Γ.Ok) : ∀ (is : List (Nat × Pos)) (ds : List D) (vs : List Value) (σ σ' : St) (own : Nat → Option Addr) (s : Shared) (Q : Unit → Shared → Prop), bindS.go is ds σ = some σ' → SC Γ A env kinds Av₀ own σ f s →
    RdAll f (AvOf Av₀ own) s.heap vs ds → (∀ x ∈ is, storable kinds (Γ.tab x.1) = true) →
    (∀ h' tk own', s.toks ≤ tk → KeepX A (WT Γ.tab env (is.map (·.1))) s.heap h' → (∀ j l, own' j = some l → own j = some l) → SC Γ A env kinds Av₀ own' σ' f { s with heap := h', toks := tk } → Q () { s with heap := h', toks := tk }) →
    wpAny (model Γ.prog Γ.w) A (assignInOrder (is.map fun x => assign (.Name (Γ.tab x.1) x.2) env) vs) Q E s
  | [], [], vs, σ, σ', own, s, Q, hb, x, r, _, hQ => by
    cases r
    cases hb
    exact wpAny_pure (hQ s.heap s.toks own (Nat.le_refl _) .refl (fun j l h => h) x)
  | y :: is, d :: ds, _, σ, σ', own, s, Q, hb, x, ⟨v, ws, p, r1, r2⟩, hst, hQ => by
    subst p
    refine wpAny_assignInOrder_more (wpAny_assign_Name (SC.storeF ok x (Rd.weaken (fun a => avOf_drop1) _ r1) (hst y (List.mem_cons_self ..)) fun h' tk ht k z => ?_))
    have cl : Clear (WS env (Γ.tab y.1)) (AvOf Av₀ (drop1 own y.1)) s.heap := ws_clear x.ok _
    refine assignAllS ok is ds ws _ σ' _ _ Q hb z (RdAll.keepX k cl (.refl f) ds (RdAll.weaken (fun a => avOf_drop1) _ r2)) (fun z hz => hst z (List.mem_cons_of_mem _ hz)) fun h'' tk' own' ht' k' ho z' => ?_
    have kA : KeepX A (WT Γ.tab env ((y :: is).map (·.1))) s.heap h' := k.weaken fun b o e q => ⟨y.1, by simp, q⟩
    have kB : KeepX A (WT Γ.tab env ((y :: is).map (·.1))) h' h'' := KeepX.weaken k' fun b o e q => WT.mono (fun i hi => by rw [List.map_cons]; exact List.mem_cons_of_mem _ hi) b q
    exact hQ h'' tk' own' (Nat.le_trans ht ht') (kA.trans kB) (fun j l h => (drop1_some (ho j l h)).1) z'
  | [], _ :: _, _, _, _, _, _, _, hb, _, _, _, _ => by cases hb
  | _ :: _, [], _, _, _, _, _, _, hb, _, _, _, _ => by cases hb

theorem bindSgo_length : ∀ {is : List (Nat × Pos)} {ds : List D} {σ σ' : St}, bindS.go is ds σ = some σ' → is.length = ds.length
  | [], [], _, _, _ => rfl
  | x :: is, d :: ds, σ, _, h => by simp only [List.length_cons]; rw [bindSgo_length (is := is) (ds := ds) (σ := upd σ x.1 (false, d)) h]
  | [], _ :: _, _, _, h => by cases h
  | _ :: _, [], _, _, h => by cases h

theorem assignS (ok : Γ.Ok) (hh : A.handled = none) (x : SC Γ A env kinds Av₀ own σ f s) {t : Tgt} {v : Value} (hb : bindS t d σ = some σ') (hr : Rd f (AvOf Av₀ own) s.heap v d)
    (hst : ∀ i ∈ t.is, storable kinds (Γ.tab i) = true) {Q : Unit → Shared → Prop}
    (hQ : ∀ h' tk own', s.toks ≤ tk → KeepX A (WT Γ.tab env t.is) s.heap h' → (∀ j l, own' j = some l → own j = some l) → SC Γ A env kinds Av₀ own' σ' f { s with heap := h', toks := tk } → Q () { s with heap := h', toks := tk }) :
    wpAny (model Γ.prog Γ.w) A (assign (t.toE Γ.tab) env v) Q E s := by
  cases t with
  | one i p =>
    cases hb
    refine wpAny_assign_Name (SC.storeF ok x (Rd.weaken (fun a => avOf_drop1) _ hr) (hst i (by simp [Tgt.is])) fun h' tk ht k z => hQ h' tk _ ht (k.weaken fun b o e q => ⟨i, by simp [Tgt.is], q⟩) (fun j l h => (drop1_some h).1) z)
  | tup is p =>
    have fin : ∀ (ds : List D) (its : Array Value), bindS.go is ds σ = some σ' → RdAll f (AvOf Av₀ own) s.heap its.toList ds → ∀ h₀, Heap.ExtBut s.heap.objs.size s.heap h₀ →
        wpAny (model Γ.prog Γ.w) A (assignInOrder ((assignEach (is.map fun x => .Name (Γ.tab x.1) x.2) env).map (·.2)) its.toList) Q E { s with heap := h₀ } := by
      intro ds its hb r h₀ he
      have k0 : KeepS A s { s with heap := h₀, toks := s.toks } := .of fun b o e => he b o (Nat.ne_of_lt (Heap.lt_size e)) e
      rw [assignEach_names, List.map_map]
      refine assignAllS ok is ds its.toList σ σ' own _ Q hb (x.keep k0 (.refl f) x.wd) (r.keep k0.keep (.refl f)) (fun x hx => hst x.1 (List.mem_map.mpr ⟨x, hx, rfl⟩)) fun h' tk own' ht k ho z => ?_
      exact hQ h' tk own' ht ((KeepX.of_keep k0.keep).trans k) ho z
    have hlen : ∀ (ds : List D) (its : Array Value), bindS.go is ds σ = some σ' → RdAll f (AvOf Av₀ own) s.heap its.toList ds → (assignEach (is.map fun x => .Name (Γ.tab x.1) x.2) env).length = its.size := by
      intro ds its hb r
      rw [assignEach_names, List.length_map, bindSgo_length hb]
      have := r.length
      rw [Array.length_toList] at this
      exact this.symm
    have hno : (assignEach (is.map fun x => .Name (Γ.tab x.1) x.2) env).findIdx? (·.1) = none := by
      rw [assignEach_names, List.findIdx?_eq_none_iff]
      intro x hx
      obtain ⟨y, _, rfl⟩ := List.mem_map.mp hx
      rfl
    cases d with
    | tuple ds =>
      obtain ⟨a, its, rfl, ht, r⟩ := hr
      exact wpAny_assign_Tuple hh (items := its) ht (hlen ds its hb r) hno (fin ds its hb r)
    | list ds =>
      obtain ⟨a, its, rfl, _, hl, r⟩ := hr
      show wpAny _ A (assign (.Tuple _ 0 p) env (.ref a)) Q E s
      rw [arm_assign_Tuple]
      refine wpAny_bind (wpAny_standAt ?_)
      unfold unpack
      rw [hlen ds its hb r, hno]
      exact wpAny_bind (wpAny_holding (unpackItems_list hh hl (fin ds its hb r)))
    | _ => cases hb
end
end Mine
end

section
namespace Mine
open PySem PySem.W PyProof.Rows

section
variable {Γ : Ctxt} {kinds : List (Str × NameKind)} {A : Around} {env : Env} {s : Shared} {f : TokMap} {Av₀ : Addr → Prop} {own : Nat → Option Addr} {σ σ' : St} {E : Value → Shared → Prop}

/-- a loop; its body may raise, where that is caught behind the loop -/
theorem for_gen (ok : Γ.Ok) (ao : AOk Γ.lvl A) {t : Tgt} {it : It} {body : List Stmt} {p : Pos} (hit : SIt Γ kinds it) (hen : isEnumIt it = true → isTup t = true) (hst : ∀ i ∈ t.is, storable kinds (Γ.tab i) = true) {fl : Fl} (step2 : Mine.St → Option (Mine.St × Fl))
    (hbody : ∀ σ₂ σ₃ fl₁, step2 σ₂ = some (σ₃, fl₁) → (∀ v, fl₁ = .ret v → σ' = σ₃ ∧ fl = .ret v) → ∀ h₄ tk₄ f₄ own₄, SC Γ A env kinds Av₀ own₄ σ₂ f₄ { s with heap := h₄, toks := tk₄ } → s.toks ≤ tk₄ → Ext f f₄ → KeepX A (WSt env own) s.heap h₄ → (∀ j l, own₄ j = some l → (∃ j', own j' = some l) ∨ s.heap.get? l = none) →
      wpAny (model Γ.prog Γ.w) A (execs body env) (SOut Γ A env kinds Av₀ own₄ { s with heap := h₄, toks := tk₄ } f₄ σ₃ fl₁) (notedBy (model Γ.prog Γ.w) A env (cameBackBy (model Γ.prog Γ.w) A env E)) { s with heap := h₄, toks := tk₄ })
    (x : SC Γ A env kinds Av₀ own σ f s) {ds : List D} (hds : evIt Γ.tab Γ.G it σ.frozen = some ds)
    (hl : loopM (fun d σ' => (bindS t d σ').bind fun σ'' => step2 σ'') ds σ = some (σ', fl)) :
    wpAny (model Γ.prog Γ.w) A (exec (.For (t.toE Γ.tab) (it.toE Γ.tab) body [] p) env) (SOut Γ A env kinds Av₀ own s f σ' fl) E s := by
  refine wpAny_For (withToks (wpAny_mono (hit _ ds hds A env s f _ E (t.toE Γ.tab) (fun q => isTup_toE (hen q)) ao x.frozen) (fun xv s₁ hx ht₁ => withToks (wpAny_mono hx (fun v s₂ hv ht₂ => ?_) fun _ _ q => q)) fun _ _ q => q)) (fold_pure Γ.tab it env)
  obtain ⟨k, I, fp, f', rfl, ex, wd, hfp, hitr⟩ := hv
  have y := x.keep k ex wd
  obtain ⟨h₂, tk₂, rfl, kk⟩ := k
  have htk : s.toks ≤ tk₂ := Nat.le_trans ht₁ ht₂
  obtain ⟨St, itr, st⟩ := hitr (fun a => AvOf Av₀ own a ∨ h₂.get? a = none) fun a q => q
  have old : ∀ l, h₂.get? l = none → s.heap.get? l = none := fun l q => by
    cases z : s.heap.get? l with
    | none => rfl
    | some o => obtain ⟨o', e', _⟩ := kk l o (fun q => q) z; rw [q] at e'; cases e'
  generalize hstep : (fun d σ' => (bindS t d σ').bind fun σ'' => step2 σ'' : D → Mine.St → Option (Mine.St × Fl)) = step at hl
  -- what holds of the iterator's objects wherever it stands
  have fpOff : ∀ {i : Nat} {h' : Heap} {tk : Nat} {f'' : TokMap} {own' : Nat → Option Addr} {σ₁ : Mine.St}, St i h' f'' → SC Γ A env kinds Av₀ own' σ₁ f'' { s with heap := h', toks := tk } →
      ∀ b, b ∈ fp → Γ.h₁.get? b = none ∧ ¬ FS A b ∧ b ≠ env.locals ∧ (∀ n, (env.kindOf n = some .cell ∨ env.kindOf n = some .free) → env.cells.lookup n ≠ some b) ∧ ¬ Av₀ b ∧ (∀ o xs n, h'.get? b = some o → o.data ≠ .seq xs n) := by
    intro i h' tk f'' own' σ₁ st' z b hb
    obtain ⟨o, vs, e1, d1⟩ := itr.objs _ _ _ st' b hb
    refine ⟨base_none x.si (hfp b hb).2, notFS_fields z.si e1 d1, fun q => ?_, fun n hn q => ?_, fun q => ?_, fun o' xs n e q => ?_⟩
    · obtain ⟨m, o', es, ep, ho, hd, _⟩ := z.ok.ns
      rw [← q] at ho
      have ho' : h'.get? b = some o' := ho
      rw [e1] at ho'; cases ho'
      rw [d1] at hd; cases hd
    · obtain ⟨c, v, hc', o', ho, hd⟩ := z.ok.cells n hn
      rw [q] at hc'; cases hc'
      have ho' : h'.get? b = some o' := ho
      rw [e1] at ho'; cases ho'
      rw [d1] at hd; cases hd
    · obtain ⟨o', e⟩ := x.av b q
      rw [(hfp b hb).2] at e; cases e
    · rw [e1] at e; cases e
      rw [d1] at q; cases q
  have fpWSt : ∀ {i : Nat} {h' : Heap} {tk : Nat} {f'' : TokMap} {own' : Nat → Option Addr} {σ₁ : Mine.St}, St i h' f'' → SC Γ A env kinds Av₀ own' σ₁ f'' { s with heap := h', toks := tk } → ∀ b, b ∈ fp → ¬ WSt env own' b := by
    intro i h' tk f'' own' σ₁ st' z b hb q
    obtain ⟨o, vs, e1, d1⟩ := itr.objs _ _ _ st' b hb
    rcases q with ⟨y, q⟩ | ⟨j, q⟩
    · exact ws_notFields z.ok q e1 d1
    · obtain ⟨_, _, its, o', n, e2, _, _, d2⟩ := z.nw j b q
      have e2' : h'.get? b = some o' := e2
      rw [e1] at e2'; cases e2'
      rw [d1] at d2; cases d2
  have ends : ∀ {h' : Heap} {tk : Nat} {f'' : TokMap} {own' : Nat → Option Addr} {σ₁ : Mine.St} {fl₁ : Fl} {flow : Flow}, tk₂ ≤ tk → Ext f' f'' → SC Γ A env kinds Av₀ own' σ₁ f'' { s with heap := h', toks := tk } →
      KeepX A (fun b => WSt env own b ∨ b ∈ fp) h₂ h' → (∀ j l, own' j = some l → (∃ j', own j' = some l) ∨ h₂.get? l = none) → FlOk f'' Av₀ h' fl₁ flow →
      SOut Γ A env kinds Av₀ own s f σ₁ fl₁ flow { s with heap := h', toks := tk } := by
    intro h' tk f'' own' σ₁ fl₁ flow t1 e1 z k1 ho fo
    refine ⟨own', f'', h', tk, rfl, Nat.le_trans htk t1, ex.trans e1, z, (KeepX.of_keep kk).trans' k1 (fun b o n e q => q.elim n fun q => ?_), fun j l hj => (ho j l hj).imp id (old l), fo⟩
    rw [(hfp b q).2] at e; cases e
  obtain ⟨Inv, hInv⟩ : ∃ Inv : Nat → Shared → Prop, Inv = fun n s' => Ex6 fun (i : Nat) (h' : Heap) (tk : Nat) (f'' : TokMap) (own' : Nat → Option Addr) (σ₁ : Mine.St) => And10 (s' = { s with heap := h', toks := tk }) (n = ds.length - i) (i ≤ ds.length) (tk₂ ≤ tk) (Ext f' f'') (St i h' f'') (SC Γ A env kinds Av₀ own' σ₁ f'' s') (loopM step (ds.drop i) σ₁ = some (σ', fl)) (KeepX A (fun b => WSt env own b ∨ b ∈ fp) h₂ h') ((∀ j l, own' j = some l → (∃ j', own j' = some l) ∨ h₂.get? l = none)) := ⟨_, rfl⟩
  refine codeAny_forLoop_any Inv (fun n s' hinv => ?_) ds.length (by rw [hInv]; exact ⟨0, h₂, tk₂, f', own, σ, rfl, rfl, Nat.zero_le _, Nat.le_refl _, .refl _, st, y, by simpa using hl, .refl, fun j l hj => .inl ⟨j, hj⟩⟩)
  rw [hInv] at hinv
  obtain ⟨i, h', tk, f'', own', σ₁, rfl, rfl, hi, htk', hext, hst', z, hrest, hk, ho⟩ := hinv
  show wpAny _ _ _ _ (notedBy (model Γ.prog Γ.w) A env (cameBackBy (model Γ.prog Γ.w) A env E)) _
  generalize hE : notedBy (model Γ.prog Γ.w) A env (cameBackBy (model Γ.prog Γ.w) A env E) = E' at hbody ⊢
  by_cases hlt : i < ds.length
  · have hd : ds[i]? = some ds[i] := List.getElem?_eq_getElem hlt
    have hdrop : ds.drop i = ds[i] :: ds.drop (i + 1) := List.drop_eq_getElem_cons hlt
    generalize ds[i] = d at hd hdrop
    rw [hdrop] at hrest
    simp only [loopM] at hrest
    have hstepd : ∀ p, step d σ₁ = some p → ∃ σ₂, bindS t d σ₁ = some σ₂ ∧ step2 σ₂ = some p := fun p hp => by
      rw [← hstep] at hp
      exact Option.bind_eq_some_iff.mp hp
    obtain ⟨p, hp⟩ : ∃ p, step d σ₁ = some p := by
      cases q : step d σ₁ with
      | none => rw [q] at hrest; cases hrest
      | some p => exact ⟨p, rfl⟩
    rw [hp] at hrest
    obtain ⟨σ₃, fl₁⟩ := p
    obtain ⟨σ₂, hb1, hb2⟩ := hstepd _ hp
    refine wpAny_mono (itr.item i d _ f'' (fun v s₂ => wpAny (model Γ.prog Γ.w) A (assign (t.toE Γ.tab) env v) (fun _ s₂ => wpAny (model Γ.prog Γ.w) A (execs body env) (fun fw s₃ => match fw with
            | .next | .cont => ∃ m, m < ds.length - i ∧ Inv m s₃
            | .brk => SOut Γ A env kinds Av₀ own s f σ' fl .next s₃
            | .ret v => SOut Γ A env kinds Av₀ own s f σ' fl (.ret v) s₃) E' s₂) E' s₂) E' hd hst' z.wd (fun b hb => (fpOff hst' z b hb).2.1) ?_) (fun r s₁ h₁ => ?_) fun _ _ q => q
    · intro v h₃ tk₃ f₃ e₃ w₃ t₃ rv st₃ kB
      have t₃' : tk ≤ tk₃ := t₃
      have z₃ : SC Γ A env kinds Av₀ own' σ₁ f₃ { s with heap := h₃, toks := tk₃ } := SC.keepN (s := { s with heap := h', toks := tk }) z (W := (· ∈ fp)) kB.keepX e₃ w₃ (fpOff hst' z)
      have rv' : Rd f₃ (AvOf Av₀ own') h₃ v d := Rd.weaken (fun a q => by
        rcases q with q | ⟨j, q⟩
        · exact .inl (.inl q)
        · exact (ho j a q).imp (fun ⟨j', q'⟩ => .inr ⟨j', q'⟩) id) _ rv
      refine assignS (s := { s with heap := h₃, toks := tk₃ }) ok ao.handled z₃ hb1 rv' hst fun h₄ tk₄ own₄ t₄ k₄ ho₄ z₄ => ?_
      have t₄' : tk₃ ≤ tk₄ := t₄
      have k₄' : KeepX A (WT Γ.tab env t.is) h₃ h₄ := k₄
      have st₄ : St (i + 1) h₄ f₃ := itr.frame _ _ _ _ _ _ st₃ (.refl _) k₄' (ws_clearT z₃.ok _) fun b hb => ⟨fun ⟨j, _, q⟩ => fpWSt st₃ z₃ b hb (.inl ⟨_, q⟩), (fpOff st₃ z₃ b hb).2.1⟩
      have k04 : KeepX A (fun b => WSt env own b ∨ b ∈ fp) h₂ h₄ := (hk.trans (KeepX.weaken kB.keepX fun b o e q => .inr q)).trans (KeepX.weaken k₄' fun b o e q => .inl (let ⟨j, _, q⟩ := q; .inl ⟨_, q⟩))
      have hoAll : ∀ j l, own₄ j = some l → (∃ j', own j' = some l) ∨ h₂.get? l = none := fun j l hj => ho j l (ho₄ j l hj)
      obtain ⟨_, _, _, _, e0, t0, x0, _, k0, o0, _⟩ := ends (fl₁ := .next) (flow := .next) (by omega) (hext.trans e₃) z₄ k04 hoAll rfl
      cases e0
      refine wpAny_mono (hbody σ₂ σ₃ fl₁ hb2 (fun v q => by subst q; cases hrest; exact ⟨rfl, rfl⟩) h₄ tk₄ f₃ own₄ z₄ (by omega) (ex.trans (hext.trans e₃)) k0 (fun j l hj => (hoAll j l hj).imp id (old l))) (fun flow s₅ out => ?_) fun _ _ q => q
      obtain ⟨own₅, f₅, h₅, tk₅, rfl, t₅, ex₅, z₅, k₅, ho₅, fo⟩ := out
      have t₅' : tk₄ ≤ tk₅ := t₅
      have k₅' : KeepX A (WSt env own₄) h₄ h₅ := k₅
      have st₅ : St (i + 1) h₅ f₅ := by
        refine itr.frame _ _ _ _ _ _ st₄ ex₅ k₅' (fun b o xs n hb e dd => ?_) fun b hb => ⟨fpWSt st₄ z₄ b hb, (fpOff st₄ z₄ b hb).2.1⟩
        rcases hb with ⟨yy, q⟩ | ⟨j, q⟩
        · exact ws_clear (Av := fun a => AvOf Av₀ own a ∨ h₂.get? a = none) z₄.ok yy b o xs n q e dd
        · obtain ⟨_, _, its, o', n', e2, c2, _, d2⟩ := z₄.nw j b q
          have e2' : h₄.get? b = some o' := e2
          rw [e] at e2'; cases e2'
          exact ⟨c2, (hoAll j b q).imp (fun ⟨j', q'⟩ => .inr ⟨j', q'⟩) id⟩
      have kAll : KeepX A (fun b => WSt env own b ∨ b ∈ fp) h₂ h₅ := by
        refine ((hk.trans (KeepX.weaken kB.keepX fun b o e q => .inr q)).trans (KeepX.weaken k₄' fun b o e q => .inl (let ⟨j, _, q⟩ := q; .inl ⟨_, q⟩))).trans' k₅' fun b o n e q => ?_
        rcases q with q | ⟨j, q⟩
        · exact n (.inl (.inl q))
        · rcases hoAll j b q with q | q
          · exact n (.inl (.inr q))
          · rw [q] at e; cases e
      have ho' : ∀ j l, own₅ j = some l → (∃ j', own j' = some l) ∨ h₂.get? l = none := fun j l hj => by
        rcases ho₅ j l hj with ⟨j', q⟩ | q
        · exact hoAll j' l q
        · cases zz : h₂.get? l with
          | none => exact .inr rfl
          | some o =>
            obtain ⟨_, _, its, pl⟩ := z₅.nw j l hj
            by_cases wl : WSt env own l ∨ l ∈ fp
            · rcases wl with (⟨yy, w⟩ | w) | w
              · exact absurd w (ws_noPlain z₅.ok pl)
              · exact .inl w
              · obtain ⟨o1, n1, e1, _, _, d1⟩ := pl
                exact absurd d1 ((fpOff st₅ z₅ l w).2.2.2.2.2 o1 _ _ e1)
            · obtain ⟨o', e', _⟩ := ((hk.trans (KeepX.weaken kB.keepX fun b o e q => .inr q)).trans (KeepX.weaken k₄' fun b o e q => .inl (let ⟨j, _, q⟩ := q; .inl ⟨_, q⟩))) l o wl zz
              have q' : h₄.get? l = none := q
              rw [q'] at e'; cases e'
      have fin : ∀ (fl₂ : Fl) (fw : Flow), FlOk f₅ Av₀ h₅ fl₂ fw → SOut Γ A env kinds Av₀ own s f σ₃ fl₂ fw { s with heap := h₅, toks := tk₅ } := fun fl₂ fw q => ends (by omega) ((hext.trans e₃).trans ex₅) z₅ kAll ho' q
      cases fl₁ with
      | next =>
        have hf : flow = .next := fo
        subst hf
        refine ⟨ds.length - (i + 1), by omega, ?_⟩
        rw [hInv]
        exact ⟨i + 1, h₅, tk₅, f₅, own₅, σ₃, rfl, rfl, hlt, by omega, (hext.trans e₃).trans ex₅, st₅, z₅, hrest, kAll, ho'⟩
      | brk =>
        have hf : flow = .brk := fo
        subst hf
        cases hrest
        exact fin .next .next rfl
      | ret dv =>
        obtain ⟨rvv, hf, hrd⟩ := fo
        subst hf
        cases hrest
        exact fin (.ret dv) (.ret rvv) ⟨rvv, rfl, hrd⟩
    · obtain ⟨v, rfl, hv⟩ := h₁
      exact hv
  · have hin : i = ds.length := by omega
    subst hin
    refine itr.done _ f'' _ _ hst' fun h₃ tk₃ t₃ kB => ?_
    have t₃' : tk ≤ tk₃ := t₃
    rw [List.drop_length] at hrest
    simp only [loopM] at hrest
    cases hrest
    have z₃ : SC Γ A env kinds Av₀ own' σ' f'' { s with heap := h₃, toks := tk₃ } := SC.keepN (s := { s with heap := h', toks := tk }) z (W := (· ∈ fp)) kB.keepX (.refl _) (z.wd.mono t₃') (fpOff hst' z)
    exact wpAny_execs_nil (ends (by omega) hext z₃ (hk.trans (KeepX.weaken kB.keepX fun b o e q => .inr q)) ho rfl)
theorem for_core (ok : Γ.Ok) (ao : AOk Γ.lvl A) {t : Tgt} {it : It} {body : Ss} {p : Pos} (hit : SIt Γ kinds it) (hen : isEnumIt it = true → isTup t = true) (hst : ∀ i ∈ t.is, storable kinds (Γ.tab i) = true) (hbody : SXs Γ kinds body)
    (x : SC Γ A env kinds Av₀ own σ f s) {ds : List D} {fl : Fl} (hds : evIt Γ.tab Γ.G it σ.frozen = some ds)
    (hl : loopM (fun d σ' => (bindS t d σ').bind fun σ'' => exs Γ.tab Γ.G body σ'') ds σ = some (σ', fl)) :
    wpAny (model Γ.prog Γ.w) A (exec (.For (t.toE Γ.tab) (it.toE Γ.tab) (body.toE Γ.tab) [] p) env) (SOut Γ A env kinds Av₀ own s f σ' fl) E s :=
  for_gen ok ao hit hen hst (fun σ'' => exs Γ.tab Γ.G body σ'') (fun σ₂ σ₃ fl₁ hb _ h₄ tk₄ f₄ own₄ z _ _ _ _ => hbody σ₂ σ₃ fl₁ hb A env _ f₄ Av₀ own₄ _ ao z) x hds hl
end
end Mine
end

section
namespace Mine
open PySem PySem.W PyProof.Rows
open AutoSeq1 (wpAny_loadPart')
open MeetsSeq SeqAt

/-! list.remove, the items' equality being known where it stands -/
theorem remove_loopAt (l : Addr) (items : Array Value) (n : Nat) (dd : Option Addr) (sl : Array (Option Value)) (x : Value) (e : Value → Bool) (j : Nat) (hj : j < items.size) (hit : e items[j] = true) (k : Nat) (hs1 : items.size ≤ sizeLine) :
    ∀ i : Nat, j - i = k → i ≤ j → (∀ m (hm : m < items.size), i ≤ m → m < j → e items[m] = false) → Meets (Builtin.«list.remove.loop» ⟨[.ref l, x, rawInt i], []⟩)
      (fun A R s => s.heap.get? l = some { cls := .type "list", dict := dd, data := .seq items n, slots := sl } ∧ (∀ y, y ∈ items → EqAt A.in1 s y x (e y)) ∧ R (.ok (.ret .none)) { s with heap := s.heap.update l (Obj.mapSeq fun xs => xs.eraseIdxIfInBounds j) }) := by
  induction k with
  | zero =>
    intro i hk hij hno prog w A R s h
    obtain ⟨hp, g, d, tk, os⟩ := s; obtain ⟨hl, he, h⟩ := h
    have hij' : i = j := by omega
    subst hij'
    wp_walk using wpAny_loadPart' hl
    have hi : items[((i : Nat) : Int).toNat]? = some items[i] := by simp [hj]
    rw [hi]
    refine wpAny_bind (he _ (Array.getElem_mem hj) prog w _ _ ?_)
    rw [hit]
    have hz' : (items.eraseIdxIfInBounds i).size ≤ sizeLine + 1 := Nat.le_trans (size_erased items _) (Nat.le_succ_of_le hs1)
    wp_walk using (wpAny_updateSeq hl rfl (hz := hs1) (_hz' := hz')), wpAny_loadPart' hl
    simpa using h
  | succ k ih =>
    intro i hk hij hno prog w A R s h
    obtain ⟨hp, g, d, tk, os⟩ := s; obtain ⟨hl, he, h⟩ := h
    have hlt : i < items.size := by omega
    wp_walk using wpAny_loadPart' hl
    have hi : items[((i : Nat) : Int).toNat]? = some items[i] := by simp [hlt]
    have hc : ((i : Int) + 1) = ((i + 1 : Nat) : Int) := by push_cast; rfl
    rw [hi]
    refine wpAny_bind (he _ (Array.getElem_mem hlt) prog w _ _ ?_)
    rw [hno i hlt (Nat.le_refl _) (by omega)]
    wp_walk
    rw [hc]
    exact ⟨plainId_quiet plain_remove_loop _, codeAny_builtin entry_remove_loop (by
      rw [Around.under_plainId plain_remove_loop _]
      exact ih (i + 1) (by omega) (by omega) (fun m hm h1 h2 => hno m hm (by omega) h2) prog w A R _ ⟨hl, he, h⟩)⟩

theorem list_removeAt (l : Addr) (items : Array Value) (n : Nat) (dd : Option Addr) (sl : Array (Option Value)) (x : Value) (e : Value → Bool) (j : Nat) (hj : j < items.size)
    (hit : e items[j] = true) (hno : ∀ m (hm : m < items.size), m < j → e items[m] = false) (hs1 : items.size ≤ sizeLine) :
    Meets (Builtin.«list.remove» ⟨[.ref l, x], []⟩)
      (fun A R s => s.heap.get? l = some { cls := .type "list", dict := dd, data := .seq items n, slots := sl } ∧ (∀ y, y ∈ items → EqAt A.in1 s y x (e y)) ∧ R (.ok (.ret .none)) { s with heap := s.heap.update l (Obj.mapSeq fun xs => xs.eraseIdxIfInBounds j) }) := by
  intro prog w A R s h
  obtain ⟨hp, g, d, tk, os⟩ := s; obtain ⟨hl, he, h⟩ := h
  wp_walk using wpAny_loadPart' hl
  exact ⟨plainId_quiet plain_remove_loop _, codeAny_builtin entry_remove_loop (by
    rw [Around.under_plainId plain_remove_loop _]
    exact remove_loopAt l items n dd sl x e j hj hit _ hs1 0 rfl (Nat.zero_le _) (fun m hm _ h2 => hno m hm h2) prog w A R _ ⟨hl, he, h⟩)⟩

theorem remove_loop_noneAt (l : Addr) (items : Array Value) (n : Nat) (dd : Option Addr) (sl : Array (Option Value)) (x : Value) (e : Value → Bool) (hno : ∀ m (hm : m < items.size), e items[m] = false) (k : Nat) :
    ∀ i : Nat, items.size - i = k → Meets (Builtin.«list.remove.loop» ⟨[.ref l, x, rawInt i], []⟩)
      (fun A R s => s.heap.get? l = some { cls := .type "list", dict := dd, data := .seq items n, slots := sl } ∧ (∀ y, y ∈ items → EqAt A.in1 s y x (e y)) ∧ raisesNew "ValueError" A R s) := by
  induction k with
  | zero =>
    intro i hk prog w A R s h
    obtain ⟨hp, g, d, tk, os⟩ := s; obtain ⟨hl, he, h⟩ := h
    wp_walk using wpAny_loadPart' hl
    have hi : items[((i : Nat) : Int).toNat]? = none := by simp; omega
    rw [hi]
    wp_walk
    exact_raiseError plainExc_ValueError h.1 h.2
  | succ k ih =>
    intro i hk prog w A R s h
    obtain ⟨hp, g, d, tk, os⟩ := s; obtain ⟨hl, he, h⟩ := h
    have hlt : i < items.size := by omega
    wp_walk using wpAny_loadPart' hl
    have hi : items[((i : Nat) : Int).toNat]? = some items[i] := by simp [hlt]
    have hc : ((i : Int) + 1) = ((i + 1 : Nat) : Int) := by push_cast; rfl
    rw [hi]
    refine wpAny_bind (he _ (Array.getElem_mem hlt) prog w _ _ ?_)
    rw [hno i hlt]
    wp_walk
    rw [hc]
    exact ⟨plainId_quiet plain_remove_loop _, codeAny_builtin entry_remove_loop (by
      rw [Around.under_plainId plain_remove_loop _]
      exact ih (i + 1) (by omega) prog w A R _ ⟨hl, he, h⟩)⟩

theorem list_remove_noneAt (l : Addr) (items : Array Value) (n : Nat) (dd : Option Addr) (sl : Array (Option Value)) (x : Value) (e : Value → Bool) (hno : ∀ m (hm : m < items.size), e items[m] = false) :
    Meets (Builtin.«list.remove» ⟨[.ref l, x], []⟩)
      (fun A R s => s.heap.get? l = some { cls := .type "list", dict := dd, data := .seq items n, slots := sl } ∧ (∀ y, y ∈ items → EqAt A.in1 s y x (e y)) ∧ raisesNew "ValueError" A R s) := by
  intro prog w A R s h
  obtain ⟨hp, g, d, tk, os⟩ := s; obtain ⟨hl, he, h⟩ := h
  wp_walk using wpAny_loadPart' hl
  exact ⟨plainId_quiet plain_remove_loop _, codeAny_builtin entry_remove_loop (by
    rw [Around.under_plainId plain_remove_loop _]
    exact remove_loop_noneAt l items n dd sl x e hno _ 0 rfl prog w A R _ ⟨hl, he, h⟩)⟩

/-- where the first equal one stands -/
theorem eraseFst_none {x : D} : ∀ {ds : List D}, eraseFst x ds = none → ∀ m (hm : m < ds.length), PyData.eqv (toP ds[m]) (toP x) = false
  | y :: r, h, m, hm => by
    unfold eraseFst at h
    split at h
    · cases h
    · rename_i hn
      cases m with
      | zero => simpa using hn
      | succ m =>
        have h' : eraseFst x r = none := by cases q : eraseFst x r with | none => rfl | some z => rw [q] at h; cases h
        exact eraseFst_none h' m (by simpa using hm)
theorem eraseFst_some {x : D} : ∀ {ds r : List D}, eraseFst x ds = some r → ∃ j, ∃ hj : j < ds.length, PyData.eqv (toP ds[j]) (toP x) = true ∧ (∀ m (hm : m < ds.length), m < j → PyData.eqv (toP ds[m]) (toP x) = false) ∧ r = ds.eraseIdx j
  | y :: ds, r, h => by
    unfold eraseFst at h
    split at h
    · rename_i hy
      cases h
      exact ⟨0, Nat.zero_lt_succ _, hy, fun m hm q => absurd q (Nat.not_lt_zero _), rfl⟩
    · rename_i hn
      obtain ⟨r', h', rfl⟩ := Option.map_eq_some_iff.mp h
      obtain ⟨j, hj, h1, h2, rfl⟩ := eraseFst_some h'
      refine ⟨j + 1, Nat.succ_lt_succ hj, h1, fun m hm q => ?_, rfl⟩
      cases m with
      | zero => simpa using hn
      | succ m => exact h2 m (by simpa using hm) (Nat.lt_of_succ_lt_succ q)

theorem rdAll_eraseIdx {f : TokMap} {Av : Addr → Prop} {h : Heap} : ∀ {ds : List D} {vs : List Value} (j : Nat), RdAll f Av h vs ds → RdAll f Av h (vs.eraseIdx j) (ds.eraseIdx j)
  | [], _, j, r => by cases r; exact RdAll.nil
  | d :: ds, _, j, ⟨v, ws, p, r1, r2⟩ => by
    subst p
    cases j with
    | zero => exact r2
    | succ j => exact .cons r1 (rdAll_eraseIdx j r2)

section
variable {prog : Program} {w : World} {A : Around} {E : Value → Shared → Prop} {s : Shared} {f : TokMap} {Av : Addr → Prop}

theorem remove_ok {l : Addr} {its : Array Value} {v : Value} {d : D} {ds r : List D} (hu : A.units + 100 < cLine) (hok : (okD d && okD (.list ds) && decide (ds.length ≤ lim)) = true) (p : PlainL s.heap l its) (hr : RdAll f Av s.heap its.toList ds) (hv : Rd f Av s.heap v d) (he : eraseFst d ds = some r)
    {Q : Value → Shared → Prop} (hQ : ∀ h' its', PlainL h' l its' → Heap.SameBut l s.heap h' → RdAll f Av s.heap its'.toList r → Q .none { s with heap := h' }) :
    wpAny (model prog w) A (call (.builtin "list.remove") [.ref l, v]) Q E s := by
  simp only [Bool.and_eq_true, decide_eq_true_eq] at hok
  obtain ⟨⟨ok1, ok2⟩, hsz⟩ := hok
  obtain ⟨ca, as, qa⟩ := Rd.reads d hv
  obtain ⟨cb, bs, qb⟩ := RdAll.reads ds hr
  have hdep := depthAll_le ok2
  have hea := items_eqAt (A := A) qb qa cb ca (by omega)
  obtain ⟨j, hj, h1, h2, rfl⟩ := eraseFst_some he
  have hlen := hr.length
  rw [Array.length_toList] at hlen
  have hget : ∀ m (hm : m < its.size) (hm' : m < ds.length), readOf s.heap its[m] = toP ds[m] := fun m hm hm' => by
    obtain ⟨u, hu1, hu2⟩ := hr.get (i := m) (d := ds[m]) (List.getElem?_eq_getElem hm')
    have : its[m] = u := by
      have e : its.toList[m]? = some its[m] := by simp [hm]
      rw [e] at hu1; exact Option.some.inj hu1
    rw [this]
    obtain ⟨c, as', q⟩ := Rd.reads _ hu2
    exact readOf_eq c q
  have p' := p
  obtain ⟨⟨cls, dd, data, sl⟩, n, ho, hc, hdn, hd⟩ := p
  simp only at hc hd hdn
  subst hc hd hdn
  have hjs : j < its.size := by omega
  have := lim_le
  refine call_meets PySem.F.slot_list_remove ⟨_, ho, rfl⟩ PySem.F.entry_list_remove (PySem.F.args_list_remove_2 _ _)
    (list_removeAt l its n none sl v (fun y => PyData.eqv (readOf s.heap y) (toP d)) j hjs (by rw [hget j hjs hj]; exact h1) (fun m hm q => by rw [hget m hm (by omega)]; exact h2 m (by omega) q) (by omega)) ⟨ho, hea, ?_⟩
  refine hQ _ _ (plainL_update p' _) (Heap.SameBut.update ..) ?_
  have e : (its.eraseIdxIfInBounds j).toList = its.toList.eraseIdx j := by
    unfold Array.eraseIdxIfInBounds
    rw [dif_pos hjs]; simp
  rw [e]
  exact rdAll_eraseIdx j hr

theorem remove_raises {l : Addr} {its : Array Value} {v : Value} {d : D} {ds : List D} (hh : A.handled = none) (hu : A.units + 100 < cLine) (hok : (okD d && okD (.list ds) && decide (ds.length ≤ lim)) = true) (p : PlainL s.heap l its) (hr : RdAll f Av s.heap its.toList ds) (hv : Rd f Av s.heap v d) (he : eraseFst d ds = none)
    {Q : Value → Shared → Prop} (hE : ∀ h' tk e, Heap.NewExc s.heap h' e "ValueError" → E (.ref e) { s with heap := h', toks := tk }) :
    wpAny (model prog w) A (call (.builtin "list.remove") [.ref l, v]) Q E s := by
  simp only [Bool.and_eq_true, decide_eq_true_eq] at hok
  obtain ⟨⟨ok1, ok2⟩, hsz⟩ := hok
  obtain ⟨ca, as, qa⟩ := Rd.reads d hv
  obtain ⟨cb, bs, qb⟩ := RdAll.reads ds hr
  have hdep := depthAll_le ok2
  have hea := items_eqAt (A := A) qb qa cb ca (by omega)
  have hlen := hr.length
  rw [Array.length_toList] at hlen
  have hget : ∀ m (hm : m < its.size) (hm' : m < ds.length), readOf s.heap its[m] = toP ds[m] := fun m hm hm' => by
    obtain ⟨u, hu1, hu2⟩ := hr.get (i := m) (d := ds[m]) (List.getElem?_eq_getElem hm')
    have : its[m] = u := by
      have e : its.toList[m]? = some its[m] := by simp [hm]
      rw [e] at hu1; exact Option.some.inj hu1
    rw [this]
    obtain ⟨c, as', q⟩ := Rd.reads _ hu2
    exact readOf_eq c q
  obtain ⟨⟨cls, dd, data, sl⟩, n, ho, hc, hdn, hd⟩ := p
  simp only at hc hd hdn
  subst hc hd hdn
  refine call_meets PySem.F.slot_list_remove ⟨_, ho, rfl⟩ PySem.F.entry_list_remove (PySem.F.args_list_remove_2 _ _)
    (list_remove_noneAt l its n none sl v (fun y => PyData.eqv (readOf s.heap y) (toP d)) (fun m hm => by rw [hget m hm (by omega)]; exact eraseFst_none he m (by omega))) ⟨ho, hea, hh, fun h' tk e hx => hE h' tk e hx⟩
end
end Mine
end

section
namespace Mine
open PySem PySem.W PyProof.Rows

theorem withToksE {α : Type} {M : Model} {A : Around} {t : Sem α} {Q : α → Shared → Prop} {E : Value → Shared → Prop} {s : Shared}
    (h : wpAny M A t (fun v s' => s.toks ≤ s'.toks → Q v s') (fun e s' => s.toks ≤ s'.toks → E e s') s) : wpAny M A t Q E s :=
  wpAny_mono (wpAny_toks_of (n := s.toks) (Nat.le_refl _) h) (fun _ _ q => q.2 q.1) fun _ _ q => q.2 q.1

theorem boot_VE : bootBuiltins "ValueError" = some (.type "ValueError") := by decide +kernel

section
variable {Γ : Ctxt} {kinds : List (Str × NameKind)} {A : Around} {env : Env} {s : Shared} {f : TokMap} {Av₀ : Addr → Prop} {own : Nat → Option Addr} {σ σ' : St} {E : Value → Shared → Prop}

/-- a ValueError that was made just now in this frame is caught here -/
theorem caught (ok : Γ.Ok) (x : SC Γ A env kinds Av₀ own σ f s) (hk : kinds.lookup ("ValueError" : Str) = some .globalImplicit) {h' : Heap} {tk : Nat} {e : Addr} (hx : Heap.NewExc s.heap h' e "ValueError") {b₀ : Stmt} {suite : List Stmt} {pv ph : Pos} {Q : Flow → Shared → Prop}
    (hQ : ∀ h'' (E' : Value → Shared → Prop), Keep A s.heap h'' → wpAny (model Γ.prog Γ.w) (A.mark (some (.ref e))) (execs (b₀ :: suite) env) Q E' { s with heap := h'', toks := tk }) :
    wpAny (model Γ.prog Γ.w) A (noteFrame (.ref e) env) (fun _ s₂ => wpAny (model Γ.prog Γ.w) A (setFlight (.ref e) none) (fun _ s₃ =>
      wpAny (model Γ.prog Γ.w) A (handleBy (.ref e) env [.ExceptHandler (some (.Name "ValueError" pv)) none (b₀ :: suite) ph]) Q E s₃) E s₂) E { s with heap := h', toks := tk } := by
  obtain ⟨outer, L, hfr, hL⟩ := x.fr
  obtain ⟨fr, hfr', hF⟩ := x.si.fr
  rw [hfr] at hfr'
  cases hfr'
  have hin : ∀ env' ∈ (env :: outer), ∀ b, env'.frame = some b → b ∈ (env :: outer).filterMap (·.frame) := fun env' he b hb => List.mem_filterMap.mpr ⟨env', he, hb⟩
  have hF' := funFrames_hide hF hin
  generalize hbase : hideAll s.heap ((env :: outer).filterMap (·.frame)) = base at hF'
  have inBase : ∀ b o, s.heap.get? b = some o → b ∉ (env :: outer).filterMap (·.frame) → base.get? b = some o := fun b o q n => by rw [← hbase]; exact hideAll_get _ q n
  have ofBase : ∀ b o, base.get? b = some o → s.heap.get? b = some o := fun b o q => by rw [← hbase] at q; exact of_hideAll _ q
  have notFr : ∀ b o, Γ.h₁.get? b = some o → b ∉ (env :: outer).filterMap (·.frame) := fun b o q hm => by rw [(hF.mem hm).1] at q; cases q
  have ground : ∀ {g : Heap}, base.StaysIn g → ∀ b o, Γ.h₁.get? b = some o → g.get? b = some o := fun k b o q => k b o (inBase b o (x.si.base b o q) (notFr b o q))
  obtain ⟨ob, t, he, hcls, hd⟩ := hx.there
  have hen : base.get? e = none := by
    cases q : base.get? e with
    | none => rfl
    | some o => have := ofBase e o q; rw [hx.new] at this; cases this
  have st' : base.StaysIn h' := fun b o q => hx.keeps b o (ofBase b o q)
  have fl' : h'.FunFrames base (env :: outer) := hF'.of_keeps fun b o hb _ => ⟨o, hx.keeps b o hb, rfl⟩
  unfold noteFrame
  simp only [hL]
  refine wpAny_bind (wpAny_field he hd (x := .none) rfl ?_)
  rw [if_neg (by decide)]
  refine wpAny_entryW (s := { s with heap := h', toks := tk }) (a0 := t) hfr fl' hL he st' hen hd (by simp) rfl fun h₂ hN => ?_
  obtain ⟨st₂, fl₂, tr₂, up₂⟩ := hN
  refine wpAny_setFlight_noneW (s := { s with heap := h₂, toks := tk }) st₂ fl₂ tr₂ fun h₃ st₃ fl₃ tr₃ up₃ => ?_
  have g₃ : h₃.Ns env.globals Γ.mg := by rw [x.ok.globals]; exact ok.B.g.keeps (ground st₃)
  have b₃ : h₃.Ns env.builtins Γ.mb := by rw [x.ok.builtins]; exact ok.B.b.keeps (ground st₃)
  refine wpAny_handleBy_builtin (X := "ValueError") (T := "ValueError") (b := true) PySem.F.isExc_ValueError PySem.F.notTuple_ValueError (by rw [isSubtype_type]; kernel_rfl)
    (Calls.Name_function_global x.ok.kind (by rw [kindOf_eq (s := s) x.ok]; exact hk) (Calls.loadGlobal_builtin g₃ (ok.B.miss _ (by simp)) b₃ ((ok.B.bi _ (by decide)).trans boot_VE) ⟨rfl, ?_, ?_⟩) (by decide))
  · obtain ⟨oe, ho, hc⟩ := tr₃.at.there
    exact ⟨oe, ho, hc.trans hcls⟩
  · simp only [if_true]
    refine wpAny_setFlight_noneW (s := { s with heap := h₃, toks := tk }) st₃ fl₃ tr₃.at fun h₄ st₄ fl₄ tr₄ up₄ => hQ h₄ _ ?_
    intro b o _ hb
    by_cases q : b ∈ (env :: outer).filterMap (·.frame)
    · obtain ⟨_, o', ho', hdn⟩ := hF.mem q
      rw [hb] at ho'; cases ho'
      obtain ⟨sl, e2⟩ := up₂ b o (hx.keeps b o hb) hdn
      have e4 := up₄ b _ (up₃ b _ e2 hdn) hdn
      refine ⟨_, e4, fun nf => absurd ?_ nf, rfl, rfl, rfl⟩
      obtain ⟨env', hm, hb'⟩ := List.mem_filterMap.mp q
      exact ⟨_, env', hfr, hm, hb'⟩
    · exact ⟨o, st₄ b o (inBase b o hb q), fun _ => rfl, .refl o⟩

theorem sx_copy (ok : Γ.Ok) {i : Nat} {e : C} {pf pc px p : Pos} (hk : storable kinds (Γ.tab i) = true) (hl : kinds.lookup ("list" : Str) = some .globalImplicit) (he : SE Γ kinds e) : SX Γ kinds (.copy i e pf pc px p) := fun σ σ' fl h A env s f Av₀ own E ao x => by
  simp only [exS_e1, exS_e2, exS_e3, exS_e4, exS_e5, exS_e6, exS_e7, exS_e8, exS_e9, exS_e10, exS_e11, exS_e12, exS_e13] at h
  obtain ⟨d, hd, h⟩ := Option.bind_eq_some_iff.mp h
  split at h
  · rename_i es
    split at h
    · rename_i hsz
      cases h
      refine wpAny_Assign_Name (call_type_args (r := .nil) ok x.frozen hl (by unfold isBuiltinName; simp) boot_list' (by decide) (by decide) ?_) rfl
      rw [back_cons]
      refine Calls.spliced_cons (evalF he hd ao x fun v h₁ tk₁ f₁ ht k₁ ex y r => Calls.spliced_nil ?_)
      obtain ⟨l, its, rfl, _, ⟨o, ho, hc, n, hdat⟩, r⟩ := r
      have hlen := r.length
      rw [Array.length_toList] at hlen
      refine call_list_seq (s := { s with heap := h₁, toks := tk₁ }) l (.inl rfl) ho hc hdat (fun h₂ c' hk₂ hD => ?_) (by have := lim_le; omega)
      have hnone : h₁.get? h₁.objs.size = none := size_none _ (Nat.le_refl _)
      refine SC.storeOG (s := { s with heap := h₁, toks := tk₁ }) ok y hk₂ hnone ⟨_, c', hD, rfl, rfl, rfl⟩ r hk fun h₃ tk₃ ht₃ k₃ z => ?_
      refine ⟨_, f₁, h₃, tk₃, rfl, Nat.le_trans ht ht₃, ex, z, (KeepX.of_keep k₁).trans (KeepX.weaken k₃ fun b o e q => wst_of_ws q), fun j l hj => ?_, rfl⟩
      unfold put1 at hj
      split at hj
      · cases hj
        refine .inr ?_
        cases q : s.heap.get? h₁.objs.size with
        | none => rfl
        | some o =>
          obtain ⟨o', e', _⟩ := k₁ _ o (fun q => q) q
          exact absurd (Heap.lt_size e') (Nat.lt_irrefl _)
      · exact .inl ⟨j, hj⟩
    · cases h
  · cases h

theorem sx_tryRemove (ok : Γ.Ok) {t y e : Nat} {pe py pt pa pn pc pf pv pk pr ph p : Pos} (hke : storable kinds (Γ.tab e) = true) (hline : (pa.endLine == pc.line) = true) (hve : kinds.lookup ("ValueError" : Str) = some .globalImplicit) (hne : e ≠ t) :
    SX Γ kinds (.tryRemove t y e pe py pt pa pn pc pf pv pk pr ph p) := fun σ σ' fl h A env s f Av₀ own E ao x => by
  simp only [exS_e1, exS_e2, exS_e3, exS_e4, exS_e5, exS_e6, exS_e7, exS_e8, exS_e9, exS_e10, exS_e11, exS_e12, exS_e13] at h
  obtain ⟨ds, hds, hl⟩ := Option.bind_eq_some_iff.mp h
  show wpAny _ A (exec (.Try [.For ((Tgt.one e pe).toE Γ.tab) ((It.of (.var y py)).toE Γ.tab) [.Expr (.Call (.Attribute (.Name (Γ.tab t) pt) "remove" pa) [.Name (Γ.tab e) pn] [] pc) pc] [] pf]
      [.ExceptHandler (some (.Name "ValueError" pv)) none [.Return (some (.Constant (.bool false) 0 pk)) pr] ph] [] [] p) env) _ E s
  refine wpAny_Try_except (wpAny_execs_cons (wpAny_mono (for_gen (t := .one e pe) (it := .of (.var y py)) (E := fun ev s₁ => wpAny (model Γ.prog Γ.w) A (noteFrame ev env) (fun _ s₂ => wpAny (model Γ.prog Γ.w) A (setFlight ev none) (fun _ s₃ =>
      wpAny (model Γ.prog Γ.w) A (handleBy ev env [.ExceptHandler (some (.Name "ValueError" pv)) none [.Return (some (.Constant (.bool false) 0 pk)) pr] ph]) (SOut Γ A env kinds Av₀ own s f σ' fl) E s₃) E s₂) E s₁)
      ok ao (sit_of (se_var ok y py)) (fun q => by cases q) (fun i hi => by rw [show i = e by simpa [Tgt.is] using hi]; exact hke) (remStep t e) ?_ x hds hl) (fun flow s' out => ?_) fun _ _ q => q))
  · intro σ₂ σ₃ fl₁ hstep hend h₄ tk₄ f₄ own₄ z ht ex k ho
    unfold remStep at hstep
    split at hstep
    · rename_i d hσe
      split at hstep
      · rename_i xs hσt
        split at hstep
        · rename_i hok
          obtain ⟨l, its, ds', e1, hl₀, hv, hp, hr⟩ := z.ow t _ hσt
          cases e1
          obtain ⟨v, hve', hvr⟩ := z.fz e d hσe
          have core : ∀ {Q : Value → Shared → Prop} {E' : Value → Shared → Prop}, wpAny (model Γ.prog Γ.w) A (call (.builtin "list.remove") [.ref l, v]) Q E' { s with heap := h₄, toks := tk₄ } →
              wpAny (model Γ.prog Γ.w) A (eval (.Call (.Attribute (.Name (Γ.tab t) pt) "remove" pa) [.Name (Γ.tab e) pn] [] pc) env) Q E' { s with heap := h₄, toks := tk₄ } := fun hcall => by
            refine wpAny_Call_method (T := "list") (id := "list.remove") rfl rfl hline PySem.F.plainAttrs_list PySem.F.slot_list_remove PySem.F.type_list_remove (name_at ok.T z.ok hv ⟨hp.isList.typeIs, fun a ha => ?_, ?_⟩)
            · cases ha
              obtain ⟨o, n, e1, c, dn, dd⟩ := hp
              exact ⟨o, e1, dn⟩
            · exact Calls.callWith_builtin rfl (Calls.evalArgs_plain (Calls.spliced_cons (name_at ok.T z.ok hve' (Calls.spliced_nil hcall))))
          split at hstep
          · rename_i rs her
            cases hstep
            refine wpAny_execs_cons (wpAny_Expr (core (remove_ok (s := { s with heap := h₄, toks := tk₄ }) ao.room hok hp hr hvr her fun h₅ its' hp₅ hs₅ hr₅ => ?_)) (noInteractive z.ok.kind) rfl)
            exact wpAny_execs_nil (turnNow (h' := h₄) (Nat.le_refl _) .refl (.refl f₄) z hσt hl₀ hs₅ hp₅ hr₅)
          · rename_i her
            cases hstep
            refine wpAny_execs_cons (wpAny_Expr (core (withToksE (remove_raises (s := { s with heap := h₄, toks := tk₄ }) ao.handled ao.room hok hp hr hvr her fun h₅ tk₅ ev hx => fun ht₅ => ?_))) (noInteractive z.ok.kind) rfl)
            obtain ⟨rfl, rfl⟩ := hend _ rfl
            refine PassesOwn.looking (K := fun ev s₂ => wpAny (model Γ.prog Γ.w) A (setFlight ev none) (fun _ s₃ => wpAny (model Γ.prog Γ.w) A (handleBy ev env [.ExceptHandler (some (.Name "ValueError" pv)) none [.Return (some (.Constant (.bool false) 0 pk)) pr] ph]) (SOut Γ A env kinds Av₀ own s f σ' (.ret (.bool false))) E s₃) E s₂) (E₁ := E) (.ref ev) _ ?_
            refine caught (s := { s with heap := h₄, toks := tk₄ }) ok z hve hx fun h₆ E' k₆ => wpAny_execs_cons (wpAny_Return_some (wpAny_Constant_bool ?_))
            have z₆ : SC Γ A env kinds Av₀ own₄ σ' f₄ { s with heap := h₆, toks := tk₅ } := z.keep (s₁ := { s with heap := h₆, toks := tk₅ }) ⟨h₆, tk₅, rfl, k₆⟩ (.refl f₄) (z.wd.mono ht₅)
            exact SOut.trans ht ex k ho ⟨own₄, f₄, h₆, tk₅, rfl, ht₅, .refl f₄, z₆, .of_keep k₆, fun i l hi => .inl ⟨i, hi⟩, .bool false, rfl, rfl⟩
        · cases hstep
      · cases hstep
    · cases hstep
  · cases fl with
    | next =>
      have hf : flow = .next := by obtain ⟨_, _, _, _, _, _, _, _, _, _, q⟩ := out; exact q
      subst hf
      exact wpAny_execs_nil (wpAny_execs_nil out)
    | brk =>
      have hf : flow = .brk := by obtain ⟨_, _, _, _, _, _, _, _, _, _, q⟩ := out; exact q
      subst hf; exact out
    | ret d =>
      have hf : ∃ v, flow = .ret v := by obtain ⟨_, _, _, _, _, _, _, _, _, _, v, q, _⟩ := out; exact ⟨v, q⟩
      obtain ⟨v, rfl⟩ := hf; exact out
end
end Mine
end

section
namespace Mine
open PySem PySem.W PyProof.Rows

section
variable {Γ : Ctxt} {kinds : List (Str × NameKind)}

theorem sx_for (ok : Γ.Ok) {t : Tgt} {it : It} {body : Ss} {p : Pos} (hit : SIt Γ kinds it) (hen : isEnumIt it = true → isTup t = true) (hst : ∀ i ∈ t.is, storable kinds (Γ.tab i) = true) (hbody : SXs Γ kinds body) : SX Γ kinds (.for t it body p) := fun σ σ' fl h A env s f Av₀ own E ao x => by
  simp only [exS_e1, exS_e2, exS_e3, exS_e4, exS_e5, exS_e6, exS_e7, exS_e8, exS_e9, exS_e10, exS_e11, exS_e12, exS_e13] at h
  obtain ⟨⟨ds, σ₁⟩, hi, hl⟩ := Option.bind_eq_some_iff.mp h
  unfold iterS at hi
  split at hi
  · rename_i ds' hds
    cases hi
    exact for_core ok ao hit hen hst hbody x hds hl
  · split at hi
    · rename_i y py hno
      split at hi
      · rename_i ds' hσ
        split at hi
        · rename_i hsz
          cases hi
          have x₁ := x.freeze hσ
          have hds : evIt Γ.tab Γ.G (.of (.var y py)) (St.frozen (upd σ y (false, .list ds))) = some ds := by
            have e : St.frozen (upd σ y (false, .list ds)) y = some (.list ds) := by unfold St.frozen upd; simp
            simp only [evIt_e1, evIt_e2, evIt_e3, evIt_e4, ev_e1, ev_e2, ev_e3, ev_e4, ev_e5, ev_e6, ev_e7, ev_e8, ev_e9, ev_e10, ev_e11, ev_e12, ev_e13, ev_e14, ev_e15, ev_e16, ev_e17, ev_e18, ev_e19, ev_e20, ev_e21, ev_e22, ev_e23, ev_e24, ev_e25, ev_e26, ev_e27, ev_e28, e, Option.bind_some]
            exact if_pos hsz
          refine wpAny_mono (for_core ok ao hit hen hst hbody x₁ hds hl) (fun flow s' o => SOut.trans (h₁ := s.heap) (tk₁ := s.toks) (Nat.le_refl _) (.refl f) .refl (fun i l hi => .inl ⟨i, (drop1_some hi).1⟩) o) fun _ _ q => q
        · cases hi
      · cases hi
    · cases hi
end

mutual
noncomputable def wfS (tab : Nat → Str) (K : List (Str × NameKind)) : S → Bool
  | .assign x e _ _ => storable K (tab x) && wfC tab e K
  | .own x es _ _ _ => storable K (tab x) && wfCs tab es K
  | .setitem _ i e _ _ _ => false
  | .append _ e _ pa p => (pa.endLine == p.line) && wfC tab e K
  | .extend _ e _ pa p => (pa.endLine == p.line) && wfC tab e K
  | .aug x e _ _ => storable K (tab x) && wfC tab e K
  | .ite t a b _ => wfC tab t K && wfSs tab K a && wfSs tab K b
  | .for t it body _ => wfIt tab it K && (!isEnumIt it || isTup t) && t.is.all (fun i => storable K (tab i)) && wfSs tab K body
  | .ret e _ => wfC tab e K
  | .brk _ => false
  | .ownComp x elt t it ifs r sc pc _ _ => storable K (tab x) && wfC tab (.comp elt (.gen t it ifs r) sc pc) K
  | .copy x e _ _ _ _ => storable K (tab x) && glob K "list" && wfC tab e K
  | .tryRemove t _ e _ _ _ pa _ pc _ _ _ _ _ _ => storable K (tab e) && (pa.endLine == pc.line) && glob K "ValueError" && decide (e ≠ t)
noncomputable def wfSs (tab : Nat → Str) (K : List (Str × NameKind)) : Ss → Bool
  | .nil => true
  | .cons s r => wfS tab K s && wfSs tab K r
end

section
variable {tab : Nat → Str} {K : List (Str × NameKind)}
theorem wfS_e1 {x e q1 q2} : wfS tab K (.assign x e q1 q2) = (storable K (tab x) && wfC tab e K) := rfl
theorem wfS_e2 {x es q1 q2 q3} : wfS tab K (.own x es q1 q2 q3) = (storable K (tab x) && wfCs tab es K) := rfl
theorem wfS_e3 {q1 i e q2 q3 q4} : wfS tab K (.setitem q1 i e q2 q3 q4) = (false) := rfl
theorem wfS_e4 {q1 e q2 pa p} : wfS tab K (.append q1 e q2 pa p) = ((pa.endLine == p.line) && wfC tab e K) := rfl
theorem wfS_e5 {q1 e q2 pa p} : wfS tab K (.extend q1 e q2 pa p) = ((pa.endLine == p.line) && wfC tab e K) := rfl
theorem wfS_e6 {x e q1 q2} : wfS tab K (.aug x e q1 q2) = (storable K (tab x) && wfC tab e K) := rfl
theorem wfS_e7 {t a b q1} : wfS tab K (.ite t a b q1) = (wfC tab t K && wfSs tab K a && wfSs tab K b) := rfl
theorem wfS_e8 {t it body q1} : wfS tab K (.for t it body q1) = (wfIt tab it K && (!isEnumIt it || isTup t) && t.is.all (fun i => storable K (tab i)) && wfSs tab K body) := rfl
theorem wfS_e9 {e q1} : wfS tab K (.ret e q1) = (wfC tab e K) := rfl
theorem wfS_e10 {q1} : wfS tab K (.brk q1) = (false) := rfl
theorem wfS_e11 {x elt t it ifs r sc pc q1 q2} : wfS tab K (.ownComp x elt t it ifs r sc pc q1 q2) = (storable K (tab x) && wfC tab (.comp elt (.gen t it ifs r) sc pc) K) := rfl
theorem wfS_e12 {x e q1 q2 q3 q4} : wfS tab K (.copy x e q1 q2 q3 q4) = (storable K (tab x) && glob K "list" && wfC tab e K) := rfl
theorem wfS_e13 {t q1 e q2 q3 q4 pa q5 pc q6 q7 q8 q9 q10 q11} : wfS tab K (.tryRemove t q1 e q2 q3 q4 pa q5 pc q6 q7 q8 q9 q10 q11) = (storable K (tab e) && (pa.endLine == pc.line) && glob K "ValueError" && decide (e ≠ t)) := rfl
theorem wfSs_e1 : wfSs tab K .nil = (true) := rfl
theorem wfSs_e2 {s r} : wfSs tab K (.cons s r) = (wfS tab K s && wfSs tab K r) := rfl
end

section
variable {Γ : Ctxt} (ok : Γ.Ok) (K : List (Str × NameKind))
include ok
mutual
theorem soundS : ∀ (st : S), wfS Γ.tab K st = true → SX Γ K st
  | .assign x e px p, h => by
    simp only [wfS_e1, wfS_e2, wfS_e3, wfS_e4, wfS_e5, wfS_e6, wfS_e7, wfS_e8, wfS_e9, wfS_e10, wfS_e11, wfS_e12, wfS_e13, Bool.and_eq_true] at h
    by_cases q : isComp e = true
    · cases e <;> first | (cases q; done) | skip
      rename_i elt g sc pc
      cases g with
      | done => have := h.2; simp [wfC_e1, wfC_e2, wfC_e3, wfC_e4, wfC_e5, wfC_e6, wfC_e7, wfC_e8, wfC_e9, wfC_e10, wfC_e11, wfC_e12, wfC_e13, wfC_e14, wfC_e15, wfC_e16, wfC_e17, wfC_e18, wfC_e19, wfC_e20, wfC_e21, wfC_e22, wfC_e23, wfC_e24, wfC_e25, wfC_e26, wfC_e27, wfC_e28] at this
      | gen t it ifs r => exact sx_assign_comp ok (compOk ok h.2) h.1
    · exact sx_assign_plain ok (by simpa using q) h.1 (soundC ok e K h.2).1
  | .own x es pe px p, h => by
    simp only [wfS_e1, wfS_e2, wfS_e3, wfS_e4, wfS_e5, wfS_e6, wfS_e7, wfS_e8, wfS_e9, wfS_e10, wfS_e11, wfS_e12, wfS_e13, Bool.and_eq_true] at h
    exact sx_own ok h.1 (soundCs ok es K h.2).1
  | .setitem x i e px ps p, h => nomatch (show false = true from h)
  | .append x e px pa p, h => by
    simp only [wfS_e1, wfS_e2, wfS_e3, wfS_e4, wfS_e5, wfS_e6, wfS_e7, wfS_e8, wfS_e9, wfS_e10, wfS_e11, wfS_e12, wfS_e13, Bool.and_eq_true] at h
    exact sx_append ok h.1 (soundC ok e K h.2).1
  | .extend x e px pa p, h => by
    simp only [wfS_e1, wfS_e2, wfS_e3, wfS_e4, wfS_e5, wfS_e6, wfS_e7, wfS_e8, wfS_e9, wfS_e10, wfS_e11, wfS_e12, wfS_e13, Bool.and_eq_true] at h
    exact sx_extend ok h.1 (soundC ok e K h.2).1
  | .aug x e px p, h => by
    simp only [wfS_e1, wfS_e2, wfS_e3, wfS_e4, wfS_e5, wfS_e6, wfS_e7, wfS_e8, wfS_e9, wfS_e10, wfS_e11, wfS_e12, wfS_e13, Bool.and_eq_true] at h
    exact sx_aug ok h.1 (soundC ok e K h.2).1
  | .ite t a b p, h => by
    simp only [wfS_e1, wfS_e2, wfS_e3, wfS_e4, wfS_e5, wfS_e6, wfS_e7, wfS_e8, wfS_e9, wfS_e10, wfS_e11, wfS_e12, wfS_e13, Bool.and_eq_true] at h
    exact sx_ite (soundC ok t K h.1.1).2 (soundSs a h.1.2) (soundSs b h.2)
  | .for t it body p, h => by
    simp only [wfS_e1, wfS_e2, wfS_e3, wfS_e4, wfS_e5, wfS_e6, wfS_e7, wfS_e8, wfS_e9, wfS_e10, wfS_e11, wfS_e12, wfS_e13, Bool.and_eq_true, List.all_eq_true, Bool.or_eq_true, Bool.not_eq_true'] at h
    exact sx_for ok (soundIt ok it K h.1.1.1) (fun q => h.1.1.2.elim (fun z => by rw [q] at z; cases z) id) h.1.2 (soundSs body h.2)
  | .ret e p, h => by
    simp only [wfS_e1, wfS_e2, wfS_e3, wfS_e4, wfS_e5, wfS_e6, wfS_e7, wfS_e8, wfS_e9, wfS_e10, wfS_e11, wfS_e12, wfS_e13] at h
    exact sx_ret (soundC ok e K h).1
  | .brk p, h => nomatch (show false = true from h)
  | .ownComp x elt t it ifs r sc pc px p, h => by
    simp only [wfS_e1, wfS_e2, wfS_e3, wfS_e4, wfS_e5, wfS_e6, wfS_e7, wfS_e8, wfS_e9, wfS_e10, wfS_e11, wfS_e12, wfS_e13, Bool.and_eq_true] at h
    exact sx_ownComp ok (compOk ok h.2) h.1
  | .copy x e pf pc px p, h => by
    simp only [wfS_e1, wfS_e2, wfS_e3, wfS_e4, wfS_e5, wfS_e6, wfS_e7, wfS_e8, wfS_e9, wfS_e10, wfS_e11, wfS_e12, wfS_e13, Bool.and_eq_true] at h
    exact sx_copy ok h.1.1 (glob_eq h.1.2) (soundC ok e K h.2).1
  | .tryRemove t y e pe py pt pa pn pc pf pv pk pr ph p, h => by
    simp only [wfS_e1, wfS_e2, wfS_e3, wfS_e4, wfS_e5, wfS_e6, wfS_e7, wfS_e8, wfS_e9, wfS_e10, wfS_e11, wfS_e12, wfS_e13, Bool.and_eq_true, decide_eq_true_eq] at h
    exact sx_tryRemove ok h.1.1.1 h.1.1.2 (glob_eq h.1.2) h.2
theorem soundSs : ∀ (st : Ss), wfSs Γ.tab K st = true → SXs Γ K st
  | .nil, h => sxs_nil
  | .cons s r, h => by
    simp only [wfSs_e1, wfSs_e2, Bool.and_eq_true] at h
    exact sxs_cons (soundS s h.1) (soundSs r h.2)
end
end

/-! a def is called -/
theorem call_def_t {prog : Program} {w : World} {A : Around} {s : Shared} {R : Result → Shared → Prop} {a : Addr} {o : Obj} {fd : FuncData} {body : List Stmt} {vals : List Value} {binds : List (Str × Value)}
    (hroom : A.depth < recursionLimit) (ho : s.heap.get? a = some o) (hdata : o.data = .func fd) (hlim : s.heap.NoLimit) (hcd : s.heap.CodeRec fd.code fd.qualname)
    (hbody : fd.body = .stmts body) (hbind : bindArgs fd ⟨vals, []⟩ = pure binds) (hclo : fd.closure = [])
    (hkind : ∀ x ∈ binds, fd.scope.names.lookup x.1 = some .local ∨ (fd.scope.names.lookup x.1 = some .cell ∧ ((cellsFrom (s.heap.objs.size + 1) fd.scope.names []).lookup x.1).isSome = true))
    (h : ∀ s₁, s.toks ≤ s₁.toks → InCallC s (callEnvC fd s.heap.objs.size a).locals (bindL (callEnvC fd s.heap.objs.size a).kindOf binds fun _ => none) (callEnvC fd s.heap.objs.size a).cells
        (bindC (callEnvC fd s.heap.objs.size a).kindOf binds fun _ => none) s₁ →
      wpAny (model prog w) (A.deeper (callEnvC fd s.heap.objs.size a)) (execs body (callEnvC fd s.heap.objs.size a)) (fun f s' => R (.ok (.ret (match f with | .ret v => v | _ => .none))) s') (fun _ _ => False) s₁)
    (hco : fd.scope.isCoroutine = false) (hgen : fd.scope.isGenerator = false) (hk : fd.scope.kind = .function) :
    codeAny (model prog w) A (.call (.ref a) ⟨vals, []⟩) R s := by
  refine codeAny_call_function hroom ho hdata hco hgen hbody hcd ?_
  rw [hbind, hclo]
  refine wpAny_pure (withToks (wpAny_newFunctionEnv_cells hk hkind fun env he s' x ht => ?_))
  subst he
  exact ⟨hlim.keeps x.toInCall.keep, codeAny_func (wpAny_mono (h s' ht x) (fun _ _ q => q) fun _ _ q => q.elim)⟩
end Mine
end

section
namespace Mine
open PySem PySem.W PyProof.Rows

/-- a def of the table, as the top has left it, and what was checked of it -/
structure DefOk (tab : Nat → Str) (h₁ : Heap) (mg : Str → Option Value) (i : Nat) (ps : List Nat) (body : Ss) : Prop where
  there : ∃ (name : Str) (params : Arguments) (scope : Scope) (pm cd doc : Value) (a : Addr) (o : Obj),
    mg (tab i) = some (.ref a) ∧ h₁.get? a = some o ∧ o.data = .func (Calls.docDef name params (body.toE tab) scope pm cd doc) ∧ h₁.CodeRec cd name ∧
    (∀ vs : List Value, vs.length = ps.length → bindArgs (Calls.docDef name params (body.toE tab) scope pm cd doc) ⟨vs, []⟩ = pure ((ps.map tab).zip vs)) ∧
    scope.isCoroutine = false ∧ scope.isGenerator = false ∧ scope.kind = .function ∧ (scope.names.map (·.1)).Nodup ∧ (∀ x ∈ scope.names, x.2 ≠ .free) ∧
    (∀ p ∈ ps, storable scope.names (tab p) = true) ∧ wfSs tab scope.names body = true

section
variable {f : TokMap} {Av : Addr → Prop} {h : Heap} {tab : Nat → Str} {kindOf : Str → Option NameKind}

/-- what the parameters hold -/
noncomputable def ParRel (tab : Nat → Str) (kindOf : Str → Option NameKind) (f : TokMap) (Av : Addr → Prop) (h : Heap) (σ : St) (m cm : Str → Option Value) : Prop :=
  ∀ i b d, σ i = some (b, d) → b = false ∧ ∃ v, Rd f Av h v d ∧ ((kindOf (tab i) = some .local ∧ m (tab i) = some v) ∨ (kindOf (tab i) = some .cell ∧ cm (tab i) = some v))

theorem parRel_go (T : TabOk tab) : ∀ (ps : List Nat) (ds : List D) (vs : List Value) (σ : St) (m cm : Str → Option Value), RdAll f Av h vs ds → (∀ p ∈ ps, kindOf (tab p) = some .local ∨ kindOf (tab p) = some .cell) → ParRel tab kindOf f Av h σ m cm →
    ParRel tab kindOf f Av h (argGo ps ds σ) (bindL kindOf ((ps.map tab).zip vs) m) (bindC kindOf ((ps.map tab).zip vs) cm)
  | [], ds, vs, σ, m, cm, r, hk, P => P
  | i :: ps, [], vs, σ, m, cm, r, hk, P => by
    cases r; exact P
  | i :: ps, d :: ds, _, σ, m, cm, ⟨v, ws, e, r1, r2⟩, hk, P => by
    subst e
    have hki := hk i (List.mem_cons_self ..)
    show ParRel tab kindOf f Av h (argGo ps ds (upd σ i (false, d))) (bindL kindOf ((ps.map tab).zip ws) _) (bindC kindOf ((ps.map tab).zip ws) _)
    refine parRel_go T ps ds ws _ _ _ r2 (fun p hp => hk p (List.mem_cons_of_mem _ hp)) fun j b dj hj => ?_
    unfold upd at hj
    by_cases q : j = i
    · subst q
      rw [if_pos rfl] at hj
      cases hj
      refine ⟨rfl, v, r1, ?_⟩
      rcases hki with hl | hc
      · left; refine ⟨hl, ?_⟩; rw [if_pos hl]; simp
      · right
        have hn : ¬ kindOf (tab j) = some .local := by rw [hc]; decide
        refine ⟨hc, ?_⟩; rw [if_neg hn]; simp
    · rw [if_neg q] at hj
      obtain ⟨hb, u, hu, hv⟩ := P j b dj hj
      have hne : tab j ≠ tab i := fun e => q (T.inj _ _ e)
      refine ⟨hb, u, hu, hv.imp (fun ⟨a, b⟩ => ⟨a, ?_⟩) fun ⟨a, b⟩ => ⟨a, ?_⟩⟩
      · split
        · simp [hne, b]
        · exact b
      · split
        · exact b
        · simp [hne, b]
end

section
variable {Γ : Ctxt}

theorem def_call (ok : Γ.Ok) {i : Nat} {ps : List Nat} {body : Ss} (D : DefOk Γ.tab Γ.h₁ Γ.mg i ps body) {ds : List Mine.D} {d : Mine.D} (hd : evDef Γ.tab Γ.G ps body ds = some d) :
    ∃ a fd o, Γ.mg (Γ.tab i) = some (.ref a) ∧ Γ.h₁.get? a = some o ∧ o.data = .func fd ∧
    ∀ (A : Around) (s : Shared) (f : TokMap) (Av : Addr → Prop) (vs : List Value) (E : Value → Shared → Prop), AOk (Γ.lvl + 1) A → SI Γ.h₁ A s.heap → (∀ a, Av a → ∃ o, s.heap.get? a = some o) → Wd f s.toks → RdAll f Av s.heap vs ds →
      wpAny (model Γ.prog Γ.w) A (call (.ref a) vs) (Got A f Av s d) E s ∧
      codeAny (model Γ.prog Γ.w) A (.call (.ref a) ⟨vs, []⟩) (fun r s' => ∃ v, r = .ok (.ret v) ∧ Got A f Av s d v s') s := by
  obtain ⟨name, params, scope, pm, cd, doc, a, o, hm, ho, hod, hcd, hbind, hco, hgen, hk, hnd, hfree, hpar, hwf⟩ := D.there
  refine ⟨a, _, o, hm, ho, hod, fun A s f Av vs E ao si av wd r => ?_⟩
  suffices hs : codeAny (model Γ.prog Γ.w) A (.call (.ref a) ⟨vs, []⟩) (fun r s' => ∃ v, r = .ok (.ret v) ∧ Got A f Av s d v s') s from
    ⟨wpAny_call (codeAny_mono hs fun r s' ⟨v, e, g⟩ => by subst e; exact g), hs⟩
  unfold evDef at hd
  split at hd
  · rename_i hlen
    have hvl : vs.length = ps.length := r.length.trans hlen.symm
    split at hd
    · rename_i σ' d' hex
      cases hd
      have hparK : ∀ p ∈ ps, scope.names.lookup (Γ.tab p) = some .local ∨ scope.names.lookup (Γ.tab p) = some .cell := fun p hp => storable_or (hpar p hp)
      have hcell : ∀ n, scope.names.lookup n = some .cell → ∃ c, (cellsFrom (s.heap.objs.size + 1) scope.names []).lookup n = some c := fun n hn => by
        obtain ⟨c, h1, _⟩ := cellsFrom_lookup_own scope.names (s.heap.push default) [] n hnd hn
        rw [Heap.size_push] at h1
        exact ⟨c, h1⟩
      refine (call_def_t (fd := Calls.docDef name params (body.toE Γ.tab) scope pm cd doc) (by have := ao.depth; unfold recursionLimit; omega) (si.base a o ho) hod (ok.B.lim.keeps si.base) (hcd.keeps si.base) rfl (hbind vs hvl) rfl
        (fun x hx => ?_) (fun s₁ ht X => ?_) hco hgen hk)
      · have : x.1 ∈ ps.map Γ.tab := (List.of_mem_zip (show (x.1, x.2) ∈ _ from hx)).1
        obtain ⟨p, hp, e⟩ := List.mem_map.mp this
        rw [← e]
        rcases hparK p hp with q | q
        · exact .inl q
        · obtain ⟨c, hc⟩ := hcell _ q
          exact .inr ⟨q, by show (List.lookup _ (cellsFrom (s.heap.objs.size + 1) scope.names [])).isSome = true; rw [hc]; rfl⟩
      · generalize henv : callEnvC (Calls.docDef name params (body.toE Γ.tab) scope pm cd doc) s.heap.objs.size a = env at X ⊢
        have e1 : env.scope = scope := by rw [← henv]; rfl
        have e2 : env.locals = s.heap.objs.size := by rw [← henv]; rfl
        have e3 : env.globals = mainGlobals := by rw [← henv]; rfl
        have e4 : env.builtins = builtinsNs := by rw [← henv]; rfl
        have e5 : env.cells = cellsFrom (s.heap.objs.size + 1) scope.names [] := by rw [← henv]; rfl
        have e6 : env.frame = some s.heap.objs.size := by rw [← henv]; rfl
        obtain ⟨h', tk, rfl, hkeep⟩ := X.done
        have ht' : s.toks ≤ tk := ht
        have hns := X.toInCall.ns
        have hnone : ∀ b, s.heap.objs.size ≤ b → s.heap.get? b = none := fun b hb => size_none _ hb
        have kindE : ∀ n, env.kindOf n = scope.names.lookup n := fun n => by unfold Env.kindOf; rw [e1]
        have kh : Keep A s.heap h' := .of_all hkeep
        have si' : SI Γ.h₁ (A.deeper env) h' := by
          refine ⟨fun b o e => hkeep b o (si.base b o e), ?_⟩
          obtain ⟨fr, hf, hF⟩ := (si.keep kh).fr
          refine ⟨env :: fr, by show Option.map (env :: ·) A.frames = _; rw [hf]; rfl, ?_, ?_, hF⟩
          · rw [e1, hk]; decide
          · obtain ⟨o', es, ep, ho', hd', _⟩ := hns
            rw [e2] at ho'
            exact ⟨s.heap.objs.size, o', e6, base_none si (hnone _ (Nat.le_refl _)), ho', fun vs q => by rw [hd'] at q; cases q⟩
        have P := parRel_go (f := f) (Av := Av) (h := h') (kindOf := env.kindOf) ok.T ps ds vs (fun _ => none) (fun _ => none) (fun _ => none) (r.keep kh (.refl f)) (fun p hp => by rw [kindE]; exact hparK p hp) (fun i b d hi => by cases hi)
        have cellAt : ∀ n, env.kindOf n = some .cell → ∃ c, env.cells.lookup n = some c ∧ h'.IsCell c (bindC env.kindOf ((ps.map Γ.tab).zip vs) (fun _ => none) n) := fun n hn => by
          rw [kindE] at hn
          obtain ⟨c, hc⟩ := hcell n hn
          rw [← e5] at hc
          exact ⟨c, hc, X.cell n c hc⟩
        have sc : SC Γ (A.deeper env) env scope.names Av (fun _ => none) (argSt ps ds) f { s with heap := h', toks := tk } := by
          refine ⟨si', ⟨by rw [e1]; exact hk, by rw [e1], e3, e4, ⟨_, hns⟩, fun n hn => ?_, X.apart⟩, by rw [e2]; exact base_none si (hnone _ (Nat.le_refl _)), fun n c hc => ?_, fun b hb => let ⟨o, e⟩ := av b hb; ⟨o, hkeep b o e⟩, wd.mono ht', fun j dj hj => ?_, fun j dj hj => ?_, (fun j l hj => by cases hj), (fun j j' l hj => by cases hj), let ⟨fr, hf, _⟩ := si.fr; ⟨fr, _, by show Option.map (env :: ·) A.frames = _; rw [hf]; rfl, e6⟩⟩
          · rcases hn with hn | hn
            · obtain ⟨c, h1, h2⟩ := cellAt n hn; exact ⟨c, _, h1, h2⟩
            · rw [kindE] at hn
              exact absurd rfl (hfree _ (mem_of_lookup hn))
          · have := X.above n c (mem_of_lookup hc)
            rw [e2] at this
            exact base_none si (hnone c (Nat.le_of_lt this))
          · obtain ⟨_, v, hv, hp⟩ := P j false dj hj
            refine ⟨v, ?_, Rd.weaken (fun a q => q.elim id fun ⟨_, q⟩ => by cases q) _ hv⟩
            rcases hp with ⟨hl, hmv⟩ | ⟨hc, hcv⟩
            · exact .inl ⟨hl, _, hns, hmv⟩
            · obtain ⟨c, h1, h2⟩ := cellAt _ hc
              rw [hcv] at h2
              exact .inr ⟨.inl hc, c, h1, h2⟩
          · obtain ⟨hb, _⟩ := P j true dj hj
            cases hb
        have ao' : AOk Γ.lvl (A.deeper env) := ⟨ao.handled, by have := ao.depth; show A.depth + 1 + Γ.lvl ≤ 900; omega, by have := ao.units; show A.units + 3 + 10 * Γ.lvl + 300 ≤ 9900; omega⟩
        refine wpAny_mono (soundSs ok scope.names body hwf _ σ' _ hex (A.deeper env) env _ f Av _ (fun _ _ => False) ao' sc) (fun flow s₂ out => ?_) fun _ _ q => q
        obtain ⟨own', f', h₂, tk₂, rfl, ht₂, ex, sc', k₂, _, v, rfl, rv⟩ := out
        refine ⟨v, rfl, ⟨h₂, tk₂, rfl, fun b o _ e => ?_⟩, f', ex, sc'.wd, rv⟩
        have hb : b < s.heap.objs.size := Heap.lt_size e
        have nW : ¬ WSt env (fun _ => none) b := by
          rintro (⟨x, ⟨_, q⟩ | ⟨_, q⟩⟩ | ⟨j, q⟩)
          · rw [e2] at q; rw [q] at hb; exact Nat.lt_irrefl _ hb
          · have := X.above x b (mem_of_lookup q)
            rw [e2] at this
            exact Nat.lt_asymm hb this
          · cases q
        obtain ⟨o', e', hx, sm⟩ := k₂ b o nW (hkeep b o e)
        refine ⟨o', e', fun nf => hx fun ⟨fr', env', hf', hm', hb'⟩ => ?_, sm⟩
        obtain ⟨fr, hf, _⟩ := si.fr
        have hf'' : (A.deeper env).frames = some (env :: fr) := by show Option.map (env :: ·) A.frames = _; rw [hf]; rfl
        rw [hf''] at hf'; cases hf'
        rcases List.mem_cons.mp hm' with rfl | hm'
        · rw [e6] at hb'; cases hb'; exact Nat.lt_irrefl _ hb
        · exact nf ⟨fr, env', hf, hm', hb'⟩
    · cases hd
  · cases hd
end
end Mine
end

section
namespace Mine
open PySem PySem.W PyProof.Rows

/-! the table of names -/
noncomputable def mkTab (l : List Str) (i : Nat) : Str := match l[i]? with
  | some x => x
  | none => ⟨#[1000 + i]⟩
noncomputable def tabGood (l : List Str) : Bool := decide l.Nodup && l.all fun x => x.cps.toList.all (· < 1000) && !(x == ("__debug__" : Str)) && !(x == ("__classdict__" : Str))
theorem mkTab_ok {l : List Str} (h : tabGood l = true) : TabOk (mkTab l) := by
  unfold tabGood at h
  simp only [Bool.and_eq_true, decide_eq_true_eq, List.all_eq_true, Bool.not_eq_true'] at h
  obtain ⟨hn, ha⟩ := h
  have mem : ∀ i x, l[i]? = some x → x ∈ l := fun i x e => List.mem_of_getElem? e
  have big : ∀ i x, x ∈ l → x ≠ (⟨#[1000 + i]⟩ : Str) := fun i x hx e => by
    have := (ha x hx).1.1 (1000 + i) (by rw [e]; simp)
    omega
  refine ⟨fun i j e => ?_, fun i => ?_, fun i => ?_⟩
  · unfold mkTab at e
    split at e
    · rename_i x hx
      split at e
      · rename_i y hy
        subst e
        have hi := (List.getElem?_eq_some_iff.mp hx).1
        exact (List.getElem?_inj hi hn).mp (hx.trans hy.symm)
      · exact absurd e (big j x (mem i x hx))
    · split at e
      · rename_i y hy
        exact absurd e.symm (big i y (mem j y hy))
      · have e1 : (#[1000 + i] : Array Nat) = #[1000 + j] := congrArg Str.cps e
        have := congrArg Array.toList e1
        simp at this
        exact this
  · unfold mkTab
    split
    · rename_i x hx; exact (ha x (mem i x hx)).1.2
    · rw [beq_eq_false_iff_ne]
      intro e
      have e1 := congrArg (fun x : Str => x.cps.size) e
      have e2 : (1 : Nat) = _ := e1
      revert e2
      decide
  · unfold mkTab
    split
    · rename_i x hx; exact (ha x (mem i x hx)).2
    · rw [beq_eq_false_iff_ne]
      intro e
      have e1 := congrArg (fun x : Str => x.cps.size) e
      have e2 : (1 : Nat) = _ := e1
      revert e2
      decide

/-! a program's defs, level by level -/
noncomputable abbrev Defs := List (Nat × List Nat × Ss)
noncomputable def Gfix (tab : Nat → Str) (defs : Defs) : Nat → Or
  | 0 => fun _ _ => none
  | n + 1 => fun i ds => match defs.lookup i with
    | some (ps, b) => evDef tab (Gfix tab defs n) ps b ds
    | none => none

noncomputable def DefsOk (tab : Nat → Str) (h₁ : Heap) (mg : Str → Option Value) (defs : Defs) : Prop := ∀ i ps b, defs.lookup i = some (ps, b) → DefOk tab h₁ mg i ps b

theorem gfix_ok {prog : Program} {w : World} {tab : Nat → Str} {h₁ : Heap} {mg mb : Str → Option Value} {defs : Defs} (T : TabOk tab) (B : BaseOk h₁ mg mb) (D : DefsOk tab h₁ mg defs) : ∀ n, CallOk prog w tab h₁ mg n (Gfix tab defs n)
  | 0 => fun i ds d h => by cases h
  | n + 1 => fun i ds d h => by
    unfold Gfix at h
    split at h
    · rename_i ps b hl
      have ok : (Ctxt.mk prog w tab h₁ mg mb (Gfix tab defs n) n).Ok := ⟨T, B, gfix_ok T B D n⟩
      obtain ⟨a, fd, o, h1, h2, h3, h4⟩ := def_call (Γ := Ctxt.mk prog w tab h₁ mg mb (Gfix tab defs n) n) ok (D i ps b hl) h
      exact ⟨a, fd, o, h1, h2, h3, fun A s f Av vs E ao si av wd r => (h4 A s f Av vs E ao si av wd r).1⟩
    · cases h

/-- a ground's free names -/
theorem ns_none_of {K : Frag} {h : Heap} {a : Addr} {mg : Str → Option Value} {n : Str} (X : K.In h) (G : h.Ns a mg) (e : nsIn K a n = some none) : mg n = none := by
  obtain ⟨o, es, ep, ho, hd, _, hf⟩ := G
  unfold nsIn at e
  split at e
  · rename_i c d es' n' sl q
    have := X _ _ q
    rw [ho] at this
    cases this
    cases hd
    split at e
    · cases e
    · rename_i he
      rw [← hf]
      unfold nsFind findBy
      rw [← Array.find?_toList, he]
      rfl
  · cases e

/-- one def, as the top's records tell it -/
noncomputable def recFits (tab : Nat → Str) (r : DefRec) (ps : List Nat) (body : Ss) : Bool :=
  !r.scope.isCoroutine && !r.scope.isGenerator && decide (r.scope.kind = .function) && decide ((r.scope.names.map (·.1)).Nodup) && (r.scope.names.all fun x => x.2 != .free) && ps.all (fun p => storable r.scope.names (tab p)) && wfSs tab r.scope.names body

theorem defOk_of {p : Program} {loose : List Str} {mean : ExcName → Option Value} {mg mb : Str → Option Value} {h : Heap} (T : Top p loose mean mg mb h) {tab : Nat → Str} {i : Nat} {ps : List Nat} {body : Ss} (r : DefRec) (hr : r ∈ recsOf p)
    (hn : r.name = tab i) (hb : r.body = body.toE tab) (hf : recFits tab r ps body = true)
    (hbind : ∀ pm cd doc (vs : List Value), vs.length = ps.length → bindArgs (Calls.docDef r.name r.params r.body r.scope pm cd doc) ⟨vs, []⟩ = pure ((ps.map tab).zip vs)) : DefOk tab h mg i ps body := by
  obtain ⟨a, o, pm, code, doc, h1, h2, h3, h4⟩ := T.fn r hr
  unfold recFits at hf
  simp only [Bool.and_eq_true, Bool.not_eq_true', decide_eq_true_eq, List.all_eq_true] at hf
  obtain ⟨⟨⟨⟨⟨⟨f1, f2⟩, f3⟩, f4⟩, f5⟩, f6⟩, f7⟩ := hf
  refine ⟨r.name, r.params, r.scope, pm, code, doc, a, o, by rw [← hn]; exact h1, h2, by rw [← hb]; exact h3, h4, fun vs hl => by rw [← hb]; exact hbind pm code doc vs hl, f1, f2, f3, f4, fun x hx => ?_, f6, f7⟩
  have := f5 x hx
  simpa using this

theorem keep_caller {h h' : Heap} (k : Keep callerA h h') : ∀ b o, h.get? b = some o → h'.get? b = some o := fun b o e => by
  obtain ⟨o', e', q, _⟩ := k b o (fun q => q) e
  rw [q (by rintro ⟨fr, env, hf, hm, _⟩; cases hf; cases hm)] at e'
  exact e'

theorem rdAll_raw {f : TokMap} {Av : Addr → Prop} {h : Heap} : ∀ {vs : List Value} {ns : List Int}, IntsAre vs ns → RdAll f Av h vs (ns.map .raw)
  | _, _, .nil => rfl
  | _, _, .cons n t h => .cons ⟨t, rfl⟩ (rdAll_raw h)

end Mine
end

section
namespace Mine
open PySem PySem.W PyProof.Rows

/-- the parameters take just their values, by place -/
noncomputable def BindOk (a : Arguments) (ns : List Str) : Prop := ∀ (n : Str) (body : List Stmt) (sc : Scope) (pm cd doc : Value) (vs : List Value), vs.length = ns.length → bindArgs (Calls.docDef n a body sc pm cd doc) ⟨vs, []⟩ = pure (ns.zip vs)
noncomputable def BindsOk : List Arguments → List (List Str) → Prop
  | a :: as, n :: ns => BindOk a n ∧ BindsOk as ns
  | _, _ => True
theorem len1 {vs : List Value} (h : vs.length = 1) : ∃ a, vs = [a] := by
  cases vs with
  | nil => cases h
  | cons a r => cases r with
    | nil => exact ⟨a, rfl⟩
    | cons b r => cases h
theorem len2 {vs : List Value} (h : vs.length = 2) : ∃ a b, vs = [a, b] := by
  cases vs with
  | nil => cases h
  | cons a r =>
    obtain ⟨b, e⟩ := len1 (vs := r) (Nat.succ.inj h)
    exact ⟨a, b, by rw [e]⟩
theorem defsOk_go {p : Program} {loose : List Str} {mean : ExcName → Option Value} {mg mb : Str → Option Value} {h : Heap} (T : Top p loose mean mg mb h) {tab : Nat → Str} : ∀ (rs : List DefRec) (defs : Defs), (∀ r ∈ rs, r ∈ recsOf p) →
    rs.map (fun r => (r.name, r.body)) = defs.map (fun x => (tab x.1, x.2.2.toE tab)) → ((rs.zip defs).all fun x => recFits tab x.1 x.2.2.1 x.2.2.2) = true → BindsOk (rs.map (·.params)) (defs.map fun x => x.2.1.map tab) → DefsOk tab h mg defs
  | [], [], _, _, _, _ => fun i ps b e => by cases e
  | [], d :: ds, _, e, _, _ => by cases e
  | r :: rs, [], _, e, _, _ => by cases e
  | r :: rs, d :: ds, hm, e, hf, hb => fun i ps b el => by
    simp only [List.map_cons, List.cons.injEq, Prod.mk.injEq] at e
    simp only [List.zip_cons_cons, List.all_cons, Bool.and_eq_true] at hf
    obtain ⟨⟨e1, e2⟩, e3⟩ := e
    obtain ⟨f1, f3⟩ := hf
    obtain ⟨f2, hb⟩ := hb
    obtain ⟨j, qs, c⟩ := d
    simp only [List.lookup] at el
    split at el
    · rename_i hj
      cases el
      have hij : i = j := by simpa using hj
      subst hij
      exact defOk_of T r (hm r (List.mem_cons_self ..)) e1 e2 f1 fun pm cd doc vs hl => f2 r.name r.body r.scope pm cd doc vs (by rw [hl, List.length_map])
    · exact defsOk_go T rs ds (fun x hx => hm x (List.mem_cons_of_mem _ hx)) e3 f3 hb i ps b el
theorem defsOk_of {p q : Program} {loose : List Str} {mean : ExcName → Option Value} {mg mb : Str → Option Value} {h : Heap} (T : Top p loose mean mg mb h) {tab : Nat → Str} {defs : Defs} (e : recsOf p = recsOf q)
    (recs : (recsOf q).map (fun r => (r.name, r.body)) = defs.map (fun x => (tab x.1, x.2.2.toE tab))) (fits : (((recsOf q).zip defs).all fun x => recFits tab x.1 x.2.2.1 x.2.2.2) = true) (binds : BindsOk ((recsOf q).map (·.params)) (defs.map fun x => x.2.1.map tab)) : DefsOk tab h mg defs :=
  defsOk_go T (recsOf q) defs (fun r hr => e ▸ hr) recs fits binds

/-- the law's call -/
theorem law_call {prog : Program} {w : World} {p : Program} {loose : List Str} {mean : ExcName → Option Value} {mg mb : Str → Option Value} {s₁ : Shared} {K : Frag} {tab : Nat → Str} {defs : Defs} (T : Top p loose mean mg mb s₁.heap) (X : K.In s₁.heap)
    (hst : nsIn K cStatics sharingNotToldKey = some none) (hmiss : ∀ x ∈ (["sum", "len", "min", "max", "range", "enumerate", "list", "ValueError"] : List Str), nsIn K mainGlobals x = some none)
    (TT : TabOk tab) (D : DefsOk tab s₁.heap mg defs) {fa l : Addr} {vs : List Value} {ns : List Int} {i n : Nat} {ps : List Nat} {body : Ss} (hi : defs.lookup i = some (ps, body)) (hn : n ≤ 50)
    (hfa : mg (tab i) = some (.ref fa)) (hl : s₁.heap.IsList l vs.toArray) (hv : IntsAre vs ns) (ht : 0 < s₁.toks)
    (hG : evDef tab (Gfix tab defs n) ps body [.list (ns.map .raw)] = some (.bool true)) {Q E : Value → Shared → Prop}
    (hR : ∀ h' tk, (∀ b o, s₁.heap.get? b = some o → h'.get? b = some o) → Q (.bool true) { s₁ with heap := h', toks := tk }) :
    wpAny (model prog w) callerA (call (.ref fa) [.ref l]) Q E s₁ := by
  have B : BaseOk s₁.heap mg mb := by
    refine ⟨T.g, T.b, T.nolimit, ?_, T.builtins, fun x hx => ns_none_of X T.g (hmiss x hx)⟩
    obtain ⟨mc, h1, _⟩ := T.nodigits
    exact ⟨mc, h1, ns_none_of X h1 hst⟩
  have ok : (Ctxt.mk prog w tab s₁.heap mg mb (Gfix tab defs n) n).Ok := ⟨TT, B, gfix_ok TT B D n⟩
  obtain ⟨a, fd, o, h1, h2, h3, h4⟩ := def_call (Γ := Ctxt.mk prog w tab s₁.heap mg mb (Gfix tab defs n) n) ok (D i ps body hi) hG
  have e : a = fa := by
    have : some (Value.ref a) = some (.ref fa) := h1.symm.trans hfa
    cases this; rfl
  subst e
  have ao : AOk (n + 1) callerA := ⟨rfl, by show 1 + claimMargin + (n + 1) ≤ 900; have : claimMargin = 300 := rfl; omega, by show 4 + 10 * (n + 1) + 300 ≤ 9900; omega⟩
  have si : SI s₁.heap callerA s₁.heap := ⟨fun b o e => e, [], rfl, trivial⟩
  have rd : RdAll (fun _ => none) (fun _ => False) s₁.heap [.ref l] [.list (ns.map .raw)] := .one ⟨l, vs.toArray, rfl, fun q => q, hl, by simpa using rdAll_raw hv⟩
  refine wpAny_mono (h4 callerA s₁ (fun _ => none) (fun _ => False) [.ref l] E ao si (fun a q => q.elim) ⟨ht, fun t x q => by cases q⟩ rd).1 (fun v s' ⟨⟨h', tk, e', k⟩, f', _, _, rv⟩ => ?_) fun _ _ q => q
  subst e'
  cases rv
  exact hR h' tk (keep_caller k)

end Mine
end

section
namespace Mine
open PySem PySem.W PyProof.Rows

theorem keepFree_of {tab : Nat → Str} {sc : Scope} {i : Nat} {ρ : Vw} (h : sc.names.lookup (tab i) = some .free) : keepFree tab sc ρ i = ρ i := by
  unfold keepFree; rw [h]

/-! ways to write a datum -/
/-- a way to write things of a kind as data -/
structure Enc (α : Type) [DecidableEq α] where
  e : α → D
  eq : ∀ x y, PyData.eqv (toP (e x)) (toP (e y)) = decide (x = y)
  dep : Nat
  depth : ∀ x, (toP (e x)).depth ≤ dep
  kind : ∀ x y, isKind (e x) (e y) = true

theorem beq_dec {α : Type} [BEq α] [LawfulBEq α] [DecidableEq α] (x y : α) : (x == y) = decide (x = y) := by
  by_cases h : x = y
  · subst h; simp
  · rw [decide_eq_false h]; exact beq_eq_false_iff_ne.mpr h

noncomputable def encI : Enc Int := ⟨.int, fun x y => by simp [toP, PyData.eqv, beq_dec], 0, fun x => Nat.le_refl _, fun x y => rfl⟩
noncomputable def encB : Enc Bool := ⟨.bool, fun x y => by simp [toP, PyData.eqv, beq_dec], 0, fun x => Nat.le_refl _, fun x y => rfl⟩
noncomputable def encS : Enc Str := ⟨.str, fun x y => by simp [toP, PyData.eqv, beq_dec], 0, fun x => Nat.le_refl _, fun x y => rfl⟩
/-- a text by its letters' numbers -/
noncomputable def encT : Enc (List Nat) := ⟨fun x => .str ⟨x.toArray⟩, fun x y => by simp [toP, PyData.eqv, beq_dec], 0, fun x => Nat.le_refl _, fun x y => rfl⟩
noncomputable def encN : Enc Nat := ⟨fun n => .int n, fun x y => by simp only [toP, PyData.eqv, beq_dec]; by_cases h : x = y <;> simp [h]; omega, 0, fun x => Nat.le_refl _, fun x y => rfl⟩

theorem eqvAll_enc {α : Type} [DecidableEq α] (E : Enc α) : ∀ xs ys : List α, PyData.eqvAll (toPs (xs.map E.e)) (toPs (ys.map E.e)) = decide (xs = ys)
  | [], [] => by simp [toPs, PyData.eqvAll]
  | [], y :: ys => by simp [toPs, PyData.eqvAll]
  | x :: xs, [] => by simp [toPs, PyData.eqvAll]
  | x :: xs, y :: ys => by
    simp only [List.map_cons, toPs, PyData.eqvAll, eqvAll_enc E xs ys, E.eq, List.cons.injEq]
    by_cases h : x = y <;> simp [h]
theorem depthAll_enc {α : Type} [DecidableEq α] (E : Enc α) : ∀ xs : List α, PyData.depthAll (toPs (xs.map E.e)) ≤ E.dep
  | [] => by simp [toPs, PyData.depthAll]
  | x :: xs => by
    simp only [List.map_cons, toPs, PyData.depthAll]
    exact Nat.max_le.mpr ⟨E.depth x, depthAll_enc E xs⟩
/-- lists of such -/
noncomputable def encL {α : Type} [DecidableEq α] (E : Enc α) : Enc (List α) :=
  ⟨fun xs => .list (xs.map E.e), fun xs ys => by simp only [toP, PyData.eqv, eqvAll_enc E], E.dep + 1, fun xs => by simp only [toP, PyData.depth]; exact Nat.succ_le_succ (depthAll_enc E xs), fun _ _ => rfl⟩

section
variable {α : Type} [DecidableEq α] (E : Enc α)
theorem okD_enc (h : E.dep ≤ 49) (x : α) : okD (E.e x) = true := by unfold okD; exact decide_eq_true (Nat.le_trans (E.depth x) (by omega))
theorem okDL_enc (h : E.dep ≤ 49) (xs : List α) : okD (.list (xs.map E.e)) = true := by
  unfold okD; refine decide_eq_true ?_
  simp only [toP, PyData.depth]
  exact Nat.succ_le_succ (Nat.le_trans (depthAll_enc E xs) h)
theorem eqD_enc (h : E.dep ≤ 49) (x y : α) : eqD (E.e x) (E.e y) = some (decide (x = y)) := by
  unfold eqD; rw [okD_enc E h, okD_enc E h, E.eq]; rfl
theorem inD_enc (h : E.dep ≤ 49) (x : α) (xs : List α) : inD (E.e x) (xs.map E.e) = some (decide (x ∈ xs)) := by
  unfold inD; rw [okD_enc E h, okDL_enc E h]
  simp only [Bool.and_self, if_true, List.any_map]
  congr 1
  induction xs with
  | nil => simp
  | cons y r ih =>
    simp only [List.any_cons, Function.comp, E.eq] at ih ⊢
    rw [ih]
    by_cases q : x = y
    · subst q; simp
    · have q' : ¬ y = x := fun e => q e.symm
      simp [q, q']
theorem eqDL_enc (h : E.dep ≤ 48) (xs ys : List α) : eqD (.list (xs.map E.e)) (.list (ys.map E.e)) = some (decide (xs = ys)) := eqD_enc (encL E) (by show E.dep + 1 ≤ 49; omega) xs ys
end

/-! runs, by what holds behind -/
section
variable (tab : Nat → Str) (G : Or)
/-- the run of statements ends so -/
noncomputable def Ex (b : Ss) (σ : St) (Q : St → Fl → Prop) : Prop := ∃ σ' fl, exs tab G b σ = some (σ', fl) ∧ Q σ' fl
noncomputable def Ex1 (s : S) (σ : St) (Q : St → Fl → Prop) : Prop := ∃ σ' fl, exS tab G s σ = some (σ', fl) ∧ Q σ' fl
variable {tab G}
theorem Ex.nil {σ : St} {Q : St → Fl → Prop} (h : Q σ .next) : Ex tab G .nil σ Q := ⟨σ, .next, rfl, h⟩
theorem Ex.cons {s : S} {r : Ss} {σ : St} {Q : St → Fl → Prop} (h : Ex1 tab G s σ fun σ' fl => match fl with | .next => Ex tab G r σ' Q | fl => Q σ' fl) : Ex tab G (.cons s r) σ Q := by
  obtain ⟨σ', fl, h1, h2⟩ := h
  cases fl with
  | next =>
    obtain ⟨σ'', fl', h3, h4⟩ := h2
    exact ⟨σ'', fl', by simp only [exs_e1, exs_e2, h1, h3], h4⟩
  | brk => exact ⟨σ', .brk, by simp only [exs_e1, exs_e2, h1], h2⟩
  | ret v => exact ⟨σ', .ret v, by simp only [exs_e1, exs_e2, h1], h2⟩
theorem Ex.mono {b : Ss} {σ : St} {Q R : St → Fl → Prop} (h : Ex tab G b σ Q) (q : ∀ σ' fl, Q σ' fl → R σ' fl) : Ex tab G b σ R := let ⟨a, c, d, e⟩ := h; ⟨a, c, d, q _ _ e⟩
theorem Ex1.next {s : S} {σ σ' : St} {Q : St → Fl → Prop} (h : exS tab G s σ = some (σ', .next)) (q : Q σ' .next) : Ex1 tab G s σ Q := ⟨σ', .next, h, q⟩
/-- a step that goes on, then the rest -/
theorem Ex.step {s : S} {r : Ss} {σ σ' : St} {Q : St → Fl → Prop} (h : exS tab G s σ = some (σ', .next)) (q : Ex tab G r σ' Q) : Ex tab G (.cons s r) σ Q := Ex.cons ⟨σ', .next, h, q⟩
theorem Ex.ret {e : C} {p : Pos} {r : Ss} {σ : St} {d : D} {Q : St → Fl → Prop} (h : ev tab G e σ.full = some d) (q : Q σ (.ret d)) : Ex tab G (.cons (.ret e p) r) σ Q :=
  Ex.cons ⟨σ, .ret d, by simp only [exS_e1, exS_e2, exS_e3, exS_e4, exS_e5, exS_e6, exS_e7, exS_e8, exS_e9, exS_e10, exS_e11, exS_e12, exS_e13, h, Option.map_some], q⟩
theorem Ex.ite {t : C} {a b : Ss} {p : Pos} {r : Ss} {σ : St} {Q : St → Fl → Prop} (c : Bool) (h : ev tab G t σ.full = some (.bool c))
    (h1 : c = true → Ex tab G a σ fun σ' fl => match fl with | .next => Ex tab G r σ' Q | fl => Q σ' fl) (h2 : c = false → Ex tab G b σ fun σ' fl => match fl with | .next => Ex tab G r σ' Q | fl => Q σ' fl) : Ex tab G (.cons (.ite t a b p) r) σ Q := by
  refine Ex.cons ?_
  cases c with
  | true => obtain ⟨σ', fl, e, q⟩ := h1 rfl; exact ⟨σ', fl, by simp only [exS_e1, exS_e2, exS_e3, exS_e4, exS_e5, exS_e6, exS_e7, exS_e8, exS_e9, exS_e10, exS_e11, exS_e12, exS_e13, h, boolOf, Option.bind_some, if_true, e], q⟩
  | false => obtain ⟨σ', fl, e, q⟩ := h2 rfl; exact ⟨σ', fl, by simp only [exS_e1, exS_e2, exS_e3, exS_e4, exS_e5, exS_e6, exS_e7, exS_e8, exS_e9, exS_e10, exS_e11, exS_e12, exS_e13, h, boolOf, Option.bind_some, Bool.false_eq_true, if_false, e], q⟩
theorem Ex.iteF {t : C} {a : Ss} {p : Pos} {r : Ss} {σ : St} {Q : St → Fl → Prop} (h : ev tab G t σ.full = some (.bool false)) (q : Ex tab G r σ Q) : Ex tab G (.cons (.ite t a .nil p) r) σ Q :=
  Ex.ite false h (fun e => by cases e) fun _ => ⟨σ, .next, rfl, q⟩
theorem Ex.assign {x : Nat} {e : C} {px p : Pos} {r : Ss} {σ : St} {d : D} {Q : St → Fl → Prop} (h : ev tab G e σ.frozen = some d) (q : Ex tab G r (upd σ x (false, d)) Q) : Ex tab G (.cons (.assign x e px p) r) σ Q :=
  Ex.step (by simp only [exS_e1, exS_e2, exS_e3, exS_e4, exS_e5, exS_e6, exS_e7, exS_e8, exS_e9, exS_e10, exS_e11, exS_e12, exS_e13, evK, h, Option.map_some]) q
theorem Ex.own {x : Nat} {es : Cs} {pe px p : Pos} {r : Ss} {σ : St} {ds : List D} {Q : St → Fl → Prop} (h : evs tab G es σ.frozen = some ds) (hl : ds.length ≤ lim) (q : Ex tab G r (upd σ x (true, .list ds)) Q) : Ex tab G (.cons (.own x es pe px p) r) σ Q :=
  Ex.step (by simp only [exS_e1, exS_e2, exS_e3, exS_e4, exS_e5, exS_e6, exS_e7, exS_e8, exS_e9, exS_e10, exS_e11, exS_e12, exS_e13, h, Option.bind_some, if_pos hl]) q
theorem Ex.append {x : Nat} {e : C} {px pa p : Pos} {r : Ss} {σ : St} {d : D} {ds : List D} {Q : St → Fl → Prop} (h : ev tab G e σ.frozen = some d) (hσ : σ x = some (true, .list ds)) (hl : ds.length ≤ lim) (q : Ex tab G r (upd σ x (true, .list (ds ++ [d]))) Q) : Ex tab G (.cons (.append x e px pa p) r) σ Q :=
  Ex.step (by simp only [exS_e1, exS_e2, exS_e3, exS_e4, exS_e5, exS_e6, exS_e7, exS_e8, exS_e9, exS_e10, exS_e11, exS_e12, exS_e13, evK, h, Option.bind_some, hσ, if_pos hl]) q
theorem loop_inv {α : Type} {e : α → D} {step : D → St → Option (St × Fl)} {I : List α → St → Prop} (xs : List α) : ∀ (post pre : List α) (σ : St), xs = pre ++ post → I pre σ →
    (∀ pre x post σ, xs = pre ++ x :: post → I pre σ → ∃ σ', step (e x) σ = some (σ', .next) ∧ I (pre ++ [x]) σ') → ∃ σ', loopM step (post.map e) σ = some (σ', .next) ∧ I xs σ'
  | [], pre, σ, h, hi, hs => ⟨σ, rfl, by rw [List.append_nil] at h; subst h; exact hi⟩
  | x :: post, pre, σ, h, hi, hs => by
    obtain ⟨σ₁, h1, h2⟩ := hs pre x post σ h hi
    obtain ⟨σ₂, h3, h4⟩ := loop_inv xs post (pre ++ [x]) σ₁ (by rw [h]; simp) h2 hs
    exact ⟨σ₂, by simp only [List.map_cons, loopM, h1, h3], h4⟩
/-- a loop that goes on at every turn, by what holds when some have been taken -/
theorem Ex.loop {α : Type} {e : α → D} {t : Tgt} {it : It} {body : Ss} {p : Pos} {r : Ss} {σ σ₁ : St} {Q : St → Fl → Prop} (I : List α → St → Prop) (xs : List α) (hit : iterS tab G it σ = some (xs.map e, σ₁)) (h0 : I [] σ₁)
    (hs : ∀ pre x post σ, xs = pre ++ x :: post → I pre σ → ∃ σ', bindS t (e x) σ = some σ' ∧ Ex tab G body σ' fun σ'' fl => fl = .next ∧ I (pre ++ [x]) σ'')
    (hq : ∀ σ', I xs σ' → Ex tab G r σ' Q) : Ex tab G (.cons (.for t it body p) r) σ Q := by
  obtain ⟨σ', h1, h2⟩ := loop_inv (e := e) (step := fun d σ' => (bindS t d σ').bind fun σ'' => exs tab G body σ'') (I := I) xs xs [] σ₁ rfl h0 fun pre x post σ h hi => by
    obtain ⟨σ', h1, σ'', fl, h2, h3, h4⟩ := hs pre x post σ h hi
    subst h3
    exact ⟨σ'', by simp only [h1, Option.bind_some, h2], h4⟩
  exact Ex.cons ⟨σ', .next, by simp only [exS_e1, exS_e2, exS_e3, exS_e4, exS_e5, exS_e6, exS_e7, exS_e8, exS_e9, exS_e10, exS_e11, exS_e12, exS_e13, hit, Option.bind_some, h1], hq σ' h2⟩
/-- the same, where what is gone over turns no more -/
theorem Ex.loopE {α : Type} {e : α → D} {t : Tgt} {it : It} {body : Ss} {p : Pos} {r : Ss} {σ : St} {Q : St → Fl → Prop} (I : List α → St → Prop) (xs : List α) (hit : evIt tab G it σ.frozen = some (xs.map e)) (h0 : I [] σ)
    (hs : ∀ pre x post σ, xs = pre ++ x :: post → I pre σ → ∃ σ', bindS t (e x) σ = some σ' ∧ Ex tab G body σ' fun σ'' fl => fl = .next ∧ I (pre ++ [x]) σ'')
    (hq : ∀ σ', I xs σ' → Ex tab G r σ' Q) : Ex tab G (.cons (.for t it body p) r) σ Q := Ex.loop I xs (by unfold iterS; rw [hit]) h0 hs hq
/-- the same, over a list that turned till now -/
theorem Ex.loopF {α : Type} {e : α → D} {t : Tgt} {y : Nat} {py : Pos} {body : Ss} {p : Pos} {r : Ss} {σ : St} {Q : St → Fl → Prop} (I : List α → St → Prop) (xs : List α) (hit : σ y = some (true, .list (xs.map e))) (hl : xs.length ≤ lim) (h0 : I [] (upd σ y (false, .list (xs.map e))))
    (hs : ∀ pre x post σ, xs = pre ++ x :: post → I pre σ → ∃ σ', bindS t (e x) σ = some σ' ∧ Ex tab G body σ' fun σ'' fl => fl = .next ∧ I (pre ++ [x]) σ'')
    (hq : ∀ σ', I xs σ' → Ex tab G r σ' Q) : Ex tab G (.cons (.for t (.of (.var y py)) body p) r) σ Q := Ex.loop I xs (by simp [iterS, evIt_e1, evIt_e2, evIt_e3, evIt_e4, ev_e1, ev_e2, ev_e3, ev_e4, ev_e5, ev_e6, ev_e7, ev_e8, ev_e9, ev_e10, ev_e11, ev_e12, ev_e13, ev_e14, ev_e15, ev_e16, ev_e17, ev_e18, ev_e19, ev_e20, ev_e21, ev_e22, ev_e23, ev_e24, ev_e25, ev_e26, ev_e27, ev_e28, St.frozen, hit, hl]) h0 hs hq
theorem evDef_of {ps : List Nat} {body : Ss} {ds : List D} {d : D} (hl : ps.length = ds.length) (h : Ex tab G body (argSt ps ds) fun _ fl => fl = .ret d) : evDef tab G ps body ds = some d := by
  obtain ⟨σ', fl, h1, h2⟩ := h
  subst h2
  unfold evDef
  rw [if_pos hl, h1]
end

/-! comprehensions -/
theorem collectM_map {α β : Type} {e : α → D} {e' : β → D} {F : D → Option (List D)} {g : α → List β} : ∀ {xs : List α}, (∀ x ∈ xs, F (e x) = some ((g x).map e')) → collectM F (xs.map e) = some ((xs.flatMap g).map e')
  | [], _ => rfl
  | x :: xs, h => by
    simp only [List.map_cons, collectM, h x (List.mem_cons_self ..), collectM_map fun y hy => h y (List.mem_cons_of_mem _ hy), List.flatMap_cons, List.map_append]
theorem collectM_if {α β : Type} {e : α → D} {e' : β → D} {F : D → Option (List D)} {c : α → Bool} {g : α → β} : ∀ {xs : List α}, (∀ x ∈ xs, F (e x) = some (if c x then [e' (g x)] else [])) → collectM F (xs.map e) = some (((xs.filter c).map g).map e')
  | [], _ => rfl
  | x :: xs, h => by
    have ih := collectM_if fun y hy => h y (List.mem_cons_of_mem _ hy)
    cases q : c x with
    | true => simp [collectM, h x (List.mem_cons_self ..), ih, q]
    | false => simp [collectM, h x (List.mem_cons_self ..), ih, q]
theorem lim_small {n : Nat} (h : n ≤ 100) : n ≤ lim := Nat.le_trans h (by decide)
theorem mkList_small {ds : List D} (h : ds.length ≤ 100) : mkList ds = some (.list ds) := if_pos (lim_small h)
theorem itemsD_small {ds : List D} (h : ds.length ≤ 100) : itemsD (.list ds) = some ds := if_pos (lim_small h)
theorem rangeL_eq : ∀ (n : Nat) (a : Int), rangeL a n = (List.range n).map fun k : Nat => D.int (a + k)
  | 0, _ => rfl
  | n + 1, a => by
    rw [rangeL, rangeL_eq n, List.range_succ_eq_map]
    simp only [List.map_cons, List.map_map, Int.ofNat_zero, Int.add_zero, List.cons.injEq]
    refine ⟨by simp, List.map_congr_left fun x _ => ?_⟩
    simp only [Function.comp, Nat.succ_eq_add_one, Int.natCast_add, D.int.injEq]
    omega
theorem range1_nat {n : Nat} (h : n ≤ 100) : range1D (.int n) = some ((List.range n).map encN.e) := by
  have h2 : (-lim : Int) ≤ 0 ∧ (0 : Int) ≤ lim ∧ (-lim : Int) ≤ n ∧ (n : Int) ≤ lim := by
    have : (lim : Int) = 1000000 := rfl
    omega
  simp only [range1D, D.num, Option.bind_some, range2I, if_pos h2, rangeL_eq, Int.sub_zero, Int.toNat_natCast]
  congr 1
  exact List.map_congr_left fun x _ => by simp [encN]
section
variable {tab : Nat → Str} {G : Or}
theorem mkList_map {α : Type} {e : α → D} {xs : List α} (h : xs.length ≤ lim) : mkList (xs.map e) = some (.list (xs.map e)) := if_pos (by simpa using h)
theorem ev_bin {o : BO} {a b : C} {p : Pos} {ρ : Vw} {x y z : D} (ha : ev tab G a ρ = some x) (hb : ev tab G b ρ = some y) (h : binD o x y = some z) : ev tab G (.bin o a b p) ρ = some z := by simp only [ev_e1, ev_e2, ev_e3, ev_e4, ev_e5, ev_e6, ev_e7, ev_e8, ev_e9, ev_e10, ev_e11, ev_e12, ev_e13, ev_e14, ev_e15, ev_e16, ev_e17, ev_e18, ev_e19, ev_e20, ev_e21, ev_e22, ev_e23, ev_e24, ev_e25, ev_e26, ev_e27, ev_e28, ha, hb, Option.bind_some, h]
theorem ev_cmp {o : CO} {a b : C} {p : Pos} {ρ : Vw} {x y z : D} (ha : ev tab G a ρ = some x) (hb : ev tab G b ρ = some y) (h : cmpD o x y = some z) : ev tab G (.cmp o a b p) ρ = some z := by simp only [ev_e1, ev_e2, ev_e3, ev_e4, ev_e5, ev_e6, ev_e7, ev_e8, ev_e9, ev_e10, ev_e11, ev_e12, ev_e13, ev_e14, ev_e15, ev_e16, ev_e17, ev_e18, ev_e19, ev_e20, ev_e21, ev_e22, ev_e23, ev_e24, ev_e25, ev_e26, ev_e27, ev_e28, ha, hb, Option.bind_some, h]
theorem ev_len {a : C} {pf p : Pos} {ρ : Vw} {ds : List D} (ha : ev tab G a ρ = some (.list ds)) (h : ds.length ≤ lim) : ev tab G (.len a pf p) ρ = some (.int ds.length) := by simp only [ev_e1, ev_e2, ev_e3, ev_e4, ev_e5, ev_e6, ev_e7, ev_e8, ev_e9, ev_e10, ev_e11, ev_e12, ev_e13, ev_e14, ev_e15, ev_e16, ev_e17, ev_e18, ev_e19, ev_e20, ev_e21, ev_e22, ev_e23, ev_e24, ev_e25, ev_e26, ev_e27, ev_e28, ha, Option.bind_some, lenD, if_pos h]
theorem ev_call1 {f : Nat} {a : C} {pf p : Pos} {ρ : Vw} {x z : D} (ha : ev tab G a ρ = some x) (h : G f [x] = some z) : ev tab G (.call f (.cons a .nil) pf p) ρ = some z := by simp only [ev_e1, ev_e2, ev_e3, ev_e4, ev_e5, ev_e6, ev_e7, ev_e8, ev_e9, ev_e10, ev_e11, ev_e12, ev_e13, ev_e14, ev_e15, ev_e16, ev_e17, ev_e18, ev_e19, ev_e20, ev_e21, ev_e22, ev_e23, ev_e24, ev_e25, ev_e26, ev_e27, ev_e28, evs_e1, evs_e2, ha, Option.bind_some, Option.map_some, h]
theorem ev_call2 {f : Nat} {a b : C} {pf p : Pos} {ρ : Vw} {x y z : D} (ha : ev tab G a ρ = some x) (hb : ev tab G b ρ = some y) (h : G f [x, y] = some z) : ev tab G (.call f (.cons a (.cons b .nil)) pf p) ρ = some z := by simp only [ev_e1, ev_e2, ev_e3, ev_e4, ev_e5, ev_e6, ev_e7, ev_e8, ev_e9, ev_e10, ev_e11, ev_e12, ev_e13, ev_e14, ev_e15, ev_e16, ev_e17, ev_e18, ev_e19, ev_e20, ev_e21, ev_e22, ev_e23, ev_e24, ev_e25, ev_e26, ev_e27, ev_e28, evs_e1, evs_e2, ha, hb, Option.bind_some, Option.map_some, h]
theorem ev_item {a i : C} {p : Pos} {ρ : Vw} {x y z : D} (ha : ev tab G a ρ = some x) (hb : ev tab G i ρ = some y) (h : itemD x y = some z) : ev tab G (.item a i p) ρ = some z := by simp only [ev_e1, ev_e2, ev_e3, ev_e4, ev_e5, ev_e6, ev_e7, ev_e8, ev_e9, ev_e10, ev_e11, ev_e12, ev_e13, ev_e14, ev_e15, ev_e16, ev_e17, ev_e18, ev_e19, ev_e20, ev_e21, ev_e22, ev_e23, ev_e24, ev_e25, ev_e26, ev_e27, ev_e28, ha, hb, Option.bind_some, h]
theorem ev_or2 {a b : C} {p : Pos} {ρ : Vw} {x y : Bool} (ha : ev tab G a ρ = some (.bool x)) (hb : x = false → ev tab G b ρ = some (.bool y)) : ev tab G (.or2 a b p) ρ = some (.bool (x || y)) := by
  cases x with
  | true => simp [ev_e1, ev_e2, ev_e3, ev_e4, ev_e5, ev_e6, ev_e7, ev_e8, ev_e9, ev_e10, ev_e11, ev_e12, ev_e13, ev_e14, ev_e15, ev_e16, ev_e17, ev_e18, ev_e19, ev_e20, ev_e21, ev_e22, ev_e23, ev_e24, ev_e25, ev_e26, ev_e27, ev_e28, ha, boolOf]
  | false => simp [ev_e1, ev_e2, ev_e3, ev_e4, ev_e5, ev_e6, ev_e7, ev_e8, ev_e9, ev_e10, ev_e11, ev_e12, ev_e13, ev_e14, ev_e15, ev_e16, ev_e17, ev_e18, ev_e19, ev_e20, ev_e21, ev_e22, ev_e23, ev_e24, ev_e25, ev_e26, ev_e27, ev_e28, ha, boolOf, hb rfl]
theorem evIfs_one {a : C} {ρ : Vw} {x : Bool} (ha : ev tab G a ρ = some (.bool x)) : evIfs tab G (.cons a .nil) ρ = some x := by
  cases x <;> simp [evIfs_e1, evIfs_e2, ha, boolOf]
theorem evIt_of {a : C} {ρ : Vw} {ds : List D} (ha : ev tab G a ρ = some (.list ds)) (h : ds.length ≤ lim) : evIt tab G (.of a) ρ = some ds := by simp only [evIt_e1, evIt_e2, evIt_e3, evIt_e4, ha, Option.bind_some, itemsD, if_pos h]
theorem evIt_range {a : C} {pf p : Pos} {ρ : Vw} {n : Nat} (ha : ev tab G a ρ = some (.int n)) (h : n ≤ 100) : evIt tab G (.range1 a pf p) ρ = some ((List.range n).map encN.e) := by simp only [evIt_e1, evIt_e2, evIt_e3, evIt_e4, ha, Option.bind_some]; exact range1_nat h
theorem cmp_notin {α : Type} [DecidableEq α] (E : Enc α) (h : E.dep ≤ 49) (x : α) (xs : List α) : cmpD .notin (E.e x) (.list (xs.map E.e)) = some (.bool (!decide (x ∈ xs))) := by
  have := inD_enc E h x xs
  simp only [cmpD, this, Option.map_some]
theorem cmp_eq {α : Type} [DecidableEq α] (E : Enc α) (h : E.dep ≤ 49) (x y : α) : cmpD .eq (E.e x) (E.e y) = some (.bool (decide (x = y))) := by simp only [cmpD, eqD_enc E h, Option.map_some]
theorem cmp_ne {α : Type} [DecidableEq α] (E : Enc α) (h : E.dep ≤ 49) (x y : α) : cmpD .ne (E.e x) (E.e y) = some (.bool (!decide (x = y))) := by simp only [cmpD, eqD_enc E h, Option.map_some]
theorem frozen_of {σ : St} {i : Nat} {d : D} (h : σ i = some (false, d)) : St.frozen σ i = some d := by simp only [St.frozen, h]
theorem full_of {σ : St} {i : Nat} {b : Bool} {d : D} (h : σ i = some (b, d)) : St.full σ i = some d := by simp only [St.full, h, Option.map_some]
/-- a comprehension of one clause -/
theorem ev_comp {α β : Type} {e : α → D} {e' : β → D} {elt : C} {t : Tgt} {it : It} {ifs : Cs} {sc : Scope} {p : Pos} {ρ : Vw} (c : α → Bool) (g : α → β) {xs : List α} (hit : evIt tab G it ρ = some (xs.map e)) (hl : xs.length ≤ lim)
    (h : ∀ x ∈ xs, ∃ ρ', bindT t (e x) (keepFree tab sc ρ) = some ρ' ∧ evIfs tab G ifs ρ' = some (c x) ∧ (c x = true → ev tab G elt ρ' = some (e' (g x)))) :
    ev tab G (.comp elt (.gen t it ifs .done) sc p) ρ = some (.list (((xs.filter c).map g).map e')) := by
  simp only [ev_e1, ev_e2, ev_e3, ev_e4, ev_e5, ev_e6, ev_e7, ev_e8, ev_e9, ev_e10, ev_e11, ev_e12, ev_e13, ev_e14, ev_e15, ev_e16, ev_e17, ev_e18, ev_e19, ev_e20, ev_e21, ev_e22, ev_e23, ev_e24, ev_e25, ev_e26, ev_e27, ev_e28, hit, Option.bind_some]
  rw [collectM_if (e' := e') (c := c) (g := g)]
  · exact mkList_map (by rw [List.length_map]; exact Nat.le_trans (List.length_filter_le ..) hl)
  · intro x hx
    obtain ⟨ρ', h1, h2, h3⟩ := h x hx
    simp only [h1, h2, Option.bind_some, evGs_e1, evGs_e2]
    cases q : c x with
    | true => simp [h3 q]
    | false => simp
theorem ev_comp_all {α β : Type} {e : α → D} {e' : β → D} {elt : C} {t : Tgt} {it : It} {sc : Scope} {p : Pos} {ρ : Vw} (g : α → β) {xs : List α} (hit : evIt tab G it ρ = some (xs.map e)) (hl : xs.length ≤ lim)
    (h : ∀ x ∈ xs, ∃ ρ', bindT t (e x) (keepFree tab sc ρ) = some ρ' ∧ ev tab G elt ρ' = some (e' (g x))) :
    ev tab G (.comp elt (.gen t it .nil .done) sc p) ρ = some (.list ((xs.map g).map e')) := by
  have := ev_comp (e' := e') (elt := elt) (ifs := .nil) (p := p) (fun _ => true) g hit hl fun x hx => let ⟨ρ', h1, h2⟩ := h x hx; ⟨ρ', h1, rfl, fun _ => h2⟩
  rw [this, List.filter_eq_self.mpr fun _ _ => rfl]
/-- two clauses, the outer one with a test, the inner one with one -/
theorem ev_comp2 {α β γ : Type} {e : α → D} {e₁ : β → D} {e' : γ → D} {elt : C} {t t₁ : Tgt} {it it₁ : It} {ifs ifs₁ : Cs} {sc : Scope} {p : Pos} {ρ : Vw} (c : α → Bool) (ys : α → List β) (c₁ : α → β → Bool) (g : α → β → γ) {xs : List α} (hit : evIt tab G it ρ = some (xs.map e))
    (hl : ((xs.filter c).flatMap fun x => ((ys x).filter (c₁ x)).map (g x)).length ≤ lim)
    (h : ∀ x ∈ xs, ∃ ρ', bindT t (e x) (keepFree tab sc ρ) = some ρ' ∧ evIfs tab G ifs ρ' = some (c x) ∧ (c x = true → evIt tab G it₁ ρ' = some ((ys x).map e₁) ∧ ∀ y ∈ ys x, ∃ ρ'', bindT t₁ (e₁ y) ρ' = some ρ'' ∧ evIfs tab G ifs₁ ρ'' = some (c₁ x y) ∧ (c₁ x y = true → ev tab G elt ρ'' = some (e' (g x y))))) :
    ev tab G (.comp elt (.gen t it ifs (.gen t₁ it₁ ifs₁ .done)) sc p) ρ = some (.list (((xs.filter c).flatMap fun x => ((ys x).filter (c₁ x)).map (g x)).map e')) := by
  simp only [ev_e1, ev_e2, ev_e3, ev_e4, ev_e5, ev_e6, ev_e7, ev_e8, ev_e9, ev_e10, ev_e11, ev_e12, ev_e13, ev_e14, ev_e15, ev_e16, ev_e17, ev_e18, ev_e19, ev_e20, ev_e21, ev_e22, ev_e23, ev_e24, ev_e25, ev_e26, ev_e27, ev_e28, hit, Option.bind_some]
  rw [collectM_map (e' := e') (g := fun x => if c x then ((ys x).filter (c₁ x)).map (g x) else [])]
  · have : (xs.flatMap fun x => if c x then ((ys x).filter (c₁ x)).map (g x) else []) = (xs.filter c).flatMap fun x => ((ys x).filter (c₁ x)).map (g x) := by
      clear hit h hl
      induction xs with
      | nil => rfl
      | cons x r ih =>
        rw [List.flatMap_cons, ih]
        cases q : c x <;> simp [q]
    rw [this]
    exact mkList_map hl
  · intro x hx
    obtain ⟨ρ', h1, h2, h3⟩ := h x hx
    simp only [h1, h2, Option.bind_some]
    cases q : c x with
    | false => simp
    | true =>
      obtain ⟨h4, h5⟩ := h3 q
      simp only [if_true, evGs_e1, evGs_e2, h4, Option.bind_some]
      refine collectM_if fun y hy => ?_
      obtain ⟨ρ'', h6, h7, h8⟩ := h5 y hy
      simp only [h6, h7, Option.bind_some, evGs_e1, evGs_e2]
      cases z : c₁ x y with
      | true => simp [h8 z]
      | false => simp
end
theorem itemsD_list {ds : List D} (h : ds.length ≤ lim) : itemsD (.list ds) = some ds := if_pos h

/-! the kit's lists of like things -/
section
variable {α : Type} [DecidableEq α]
noncomputable def addNew (acc : List α) (x : α) : List α := if x ∈ acc then acc else acc ++ [x]
noncomputable def dedup (xs : List α) : List α := xs.foldl addNew []
theorem mem_addNew {acc : List α} {x y : α} : y ∈ addNew acc x ↔ y ∈ acc ∨ y = x := by
  unfold addNew
  split
  · rename_i h
    exact ⟨.inl, fun q => q.elim id fun e => e ▸ h⟩
  · simp
theorem mem_foldNew {y : α} : ∀ (xs acc : List α), y ∈ xs.foldl addNew acc ↔ y ∈ acc ∨ y ∈ xs
  | [], acc => by simp
  | x :: xs, acc => by rw [List.foldl_cons, mem_foldNew xs, mem_addNew, List.mem_cons, or_assoc]
theorem mem_dedup {xs : List α} {y : α} : y ∈ dedup xs ↔ y ∈ xs := by unfold dedup; rw [mem_foldNew]; simp
theorem nodup_addNew {acc : List α} {x : α} (h : acc.Nodup) : (addNew acc x).Nodup := by
  unfold addNew
  split
  · exact h
  · rename_i q
    rw [List.nodup_append]
    refine ⟨h, by simp, fun a ha b hb => ?_⟩
    rw [List.mem_singleton] at hb
    subst hb
    exact fun e => q (e ▸ ha)
theorem nodup_foldNew : ∀ (xs acc : List α), acc.Nodup → (xs.foldl addNew acc).Nodup
  | [], _, h => h
  | x :: xs, _, h => nodup_foldNew xs _ (nodup_addNew h)
theorem nodup_dedup (xs : List α) : (dedup xs).Nodup := nodup_foldNew xs [] List.nodup_nil
theorem length_foldNew : ∀ (xs acc : List α), (xs.foldl addNew acc).length ≤ acc.length + xs.length
  | [], _ => Nat.le_refl _
  | x :: xs, acc => by
    rw [List.foldl_cons]
    refine Nat.le_trans (length_foldNew xs _) ?_
    have : (addNew acc x).length ≤ acc.length + 1 := by unfold addNew; split <;> simp
    simp only [List.length_cons]; omega
theorem length_dedup (xs : List α) : (dedup xs).length ≤ xs.length := by have := length_foldNew xs []; unfold dedup; simpa using this
/-- both have the same things -/
noncomputable def same (xs ys : List α) : Bool := xs.all (· ∈ ys) && ys.all (· ∈ xs)
theorem same_iff {xs ys : List α} : same xs ys = true ↔ ∀ x, x ∈ xs ↔ x ∈ ys := by
  unfold same
  simp only [Bool.and_eq_true, List.all_eq_true, decide_eq_true_eq]
  exact ⟨fun ⟨a, b⟩ x => ⟨a x, b x⟩, fun h => ⟨fun x => (h x).1, fun x => (h x).2⟩⟩
/-- how often -/
noncomputable def cnt (xs : List α) (x : α) : Nat := (xs.filter fun y => decide (y = x)).length
end
end Mine
end

section
namespace Mine
open PySem PySem.W PyProof.Rows
theorem stride_map {α β : Type} (f : α → β) (c : Nat) : ∀ (k : Nat) (l : List α), strideL c k (l.map f) = (strideL c k l).map f
  | _, [] => by cases ‹Nat› <;> rfl
  | 0, x :: l => by simp only [List.map_cons, strideL, stride_map f c c l]
  | k + 1, x :: l => by simp only [List.map_cons, strideL, stride_map f c k l]
theorem intsOf_raw : ∀ ns : List Int, intsOf (ns.map .raw) = some ns
  | [] => rfl
  | n :: ns => by simp [intsOf, D.num, intsOf_raw ns]
/-- every c-th of the script from a on, below b: their sum -/
noncomputable def drawn (ns : List Int) (a b c : Nat) : Int := (strideL (c - 1) 0 ((ns.take b).drop a)).sum
theorem slice_sum (ns : List Int) (a b c : Nat) (hc : 0 < c) (hl : ns.length ≤ 63) : (sliceD (.list (ns.map .raw)) (.int a) (.int b) (.int c)).bind sumD = some (.raw (drawn ns a b c)) := by
  have e : ((ns.map D.raw).take b).drop a = ((ns.take b).drop a).map D.raw := by rw [← List.map_take, ← List.map_drop]
  have hl' : ns.length ≤ lim := lim_small (Nat.le_trans hl (by decide))
  have hc' : 0 ≤ (a : Int) ∧ 0 ≤ (b : Int) ∧ (0 : Int) < c := ⟨Int.natCast_nonneg a, Int.natCast_nonneg b, Int.ofNat_lt.mpr hc⟩
  have e2 : (c : Int).toNat - 1 = c - 1 := rfl
  simp only [sliceD, D.part, Option.bind_some, List.length_map, if_pos hl', sliceL, if_pos hc', Option.map_some, Int.toNat_natCast, e, e2, stride_map, sumD, intsOf_raw, drawn]
theorem isnot_bool (a b : Bool) : cmpD .isnot (.bool a) (.bool b) = some (.bool (!(a == b))) := rfl
theorem is_bool (a b : Bool) : cmpD .is (.bool a) (.bool b) = some (.bool (a == b)) := rfl
theorem add_nat (x y : Nat) : binD .add (encN.e x) (encN.e y) = some (encN.e (x + y)) := by simp [binD, addD, numsD, encN, D.num]
theorem eq_nil {α : Type} [DecidableEq α] (E : Enc α) (h : E.dep ≤ 48) (xs : List α) : cmpD .eq (.list (xs.map E.e)) (.list []) = some (.bool (decide (xs = []))) := by
  have := eqDL_enc E h xs []
  simp only [List.map_nil] at this
  simp only [cmpD, this, Option.map_some]
theorem ne_nil {α : Type} [DecidableEq α] (E : Enc α) (h : E.dep ≤ 48) (xs : List α) : cmpD .ne (.list (xs.map E.e)) (.list []) = some (.bool (!decide (xs = []))) := by
  have := eqDL_enc E h xs []
  simp only [List.map_nil] at this
  simp only [cmpD, this, Option.map_some]
theorem pre_lt {α : Type} {xs pre post : List α} {x : α} (h : xs = pre ++ x :: post) : pre.length < xs.length := by
  rw [h, List.length_append, List.length_cons]; exact Nat.lt_add_of_pos_right (Nat.succ_pos _)
theorem mem_mid {α : Type} {xs pre post : List α} {x : α} (h : xs = pre ++ x :: post) : x ∈ xs := by rw [h]; simp
theorem pre_get {α : Type} {xs pre post : List α} {x : α} (h : xs = pre ++ x :: post) : xs[pre.length]? = some x := by rw [h]; simp

section
variable {tab : Nat → Str} {G : Or}
theorem ev_var {i : Nat} {p : Pos} {ρ : Vw} {d : D} (h : ρ i = some d) : ev tab G (.var i p) ρ = some d := h
theorem Ex.setitem {x : Nat} {i e : C} {px ps p : Pos} {r : Ss} {σ : St} {d : D} {ds : List D} {k : Nat} {Q : St → Fl → Prop} (he : evK (ev tab G e) σ = some d) (hσ : σ x = some (true, .list ds)) (hi : ev tab G i σ.frozen = some (encN.e k)) (hk : k < ds.length) (hl : ds.length ≤ lim)
    (q : Ex tab G r (upd σ x (true, .list (ds.set k d))) Q) : Ex tab G (.cons (.setitem x i e px ps p) r) σ Q := by
  refine Ex.step ?_ q
  have h1 : 0 ≤ (k : Int) ∧ (k : Int) < ds.length ∧ ds.length ≤ lim := ⟨Int.natCast_nonneg k, Int.ofNat_lt.mpr hk, hl⟩
  simp only [exS_e3, he, Option.bind_some, hσ, hi, encN, D.num, if_pos h1, Int.toNat_natCast]
theorem Ex.brk {p : Pos} {r : Ss} {σ : St} {Q : St → Fl → Prop} (q : Q σ .brk) : Ex tab G (.cons (.brk p) r) σ Q := Ex.cons ⟨σ, .brk, rfl, q⟩
theorem Ex.extend {x : Nat} {e : C} {px pa p : Pos} {r : Ss} {σ : St} {es ds : List D} {Q : St → Fl → Prop} (h : ev tab G e σ.frozen = some (.list es)) (hσ : σ x = some (true, .list ds)) (hl : ds.length + es.length ≤ lim) (q : Ex tab G r (upd σ x (true, .list (ds ++ es))) Q) : Ex tab G (.cons (.extend x e px pa p) r) σ Q :=
  Ex.step (by simp only [exS_e5, h, Option.bind_some, hσ, if_pos hl]) q
end
end Mine
end

section
namespace Mine
open PySem PySem.W PyProof.Rows

namespace L02
noncomputable def names : List Str := [Str.ofString "unhashable_params", Str.ofString "new_unhashable", Str.ofString "t", Str.ofString "_deduplicate_unhashable", Str.ofString "first_args", Str.ofString "second_args", Str.ofString "first_unhashable", Str.ofString "elem", Str.ofString "second_unhashable", Str.ofString "_compare_args_orderless", Str.ofString "a", Str.ofString "b", Str.ofString "contains", Str.ofString "count", Str.ofString "i", Str.ofString "countOf", Str.ofString "script", Str.ofString "law", Str.ofString "word", Str.ofString "k", Str.ofString "start", Str.ofString "_law_word", Str.ofString "size", Str.ofString "_law_stretches", Str.ofString "missing", Str.ofString "part", Str.ofString "text", Str.ofString "texts", Str.ofString "x", Str.ofString "y", Str.ofString "behind", Str.ofString "ahead", Str.ofString "_law_missing", Str.ofString "level", Str.ofString "longer", Str.ofString "one", Str.ofString "_law_grown", Str.ofString "_law_exchanged", Str.ofString "others", Str.ofString "changed", Str.ofString "changes", Str.ofString "turned", Str.ofString "stretches", Str.ofString "unlike", Str.ofString "fewer", Str.ofString "other"]
noncomputable abbrev tab : Nat → Str := mkTab names
noncomputable def sc0 : Scope := { kind := .function, names := [(".0", .local), ("k", .local), ("size", .free), ("word", .free)], isGenerator := false, isCoroutine := false, more := [] }
noncomputable def sc1 : Scope := { kind := .function, names := [(".0", .local), ("text", .local), ("contains", .globalImplicit), ("word", .free)], isGenerator := false, isCoroutine := false, more := [] }
noncomputable def sc2 : Scope := { kind := .function, names := [(".0", .local), ("x", .local), ("y", .local), ("behind", .free), ("part", .free)], isGenerator := false, isCoroutine := false, more := [] }
noncomputable def sc3 : Scope := { kind := .function, names := [(".0", .local), ("x", .local), ("contains", .globalImplicit), ("part", .free), ("word", .free)], isGenerator := false, isCoroutine := false, more := [] }
noncomputable def sc4 : Scope := { kind := .function, names := [(".0", .local), ("x", .local), ("contains", .globalImplicit), ("word", .free)], isGenerator := false, isCoroutine := false, more := [] }
noncomputable def sc5 : Scope := { kind := .function, names := [(".0", .local), ("one", .local), ("contains", .globalImplicit), ("part", .free)], isGenerator := false, isCoroutine := false, more := [] }
noncomputable def sc6 : Scope := { kind := .function, names := [(".0", .local), ("part", .cell), ("missing", .free)], isGenerator := false, isCoroutine := false, more := [] }
noncomputable def sc7 : Scope := { kind := .function, names := [(".0", .local), ("part", .local), ("x", .local)], isGenerator := false, isCoroutine := false, more := [] }
noncomputable def sc8 : Scope := { kind := .function, names := [(".0", .local), ("x", .local)], isGenerator := false, isCoroutine := false, more := [] }
noncomputable def sc9 : Scope := { kind := .function, names := [(".0", .local), ("one", .local), ("_law_exchanged", .globalImplicit)], isGenerator := false, isCoroutine := false, more := [] }
noncomputable def sc10 : Scope := { kind := .function, names := [(".0", .local), ("one", .local)], isGenerator := false, isCoroutine := false, more := [] }
noncomputable def sc11 : Scope := { kind := .function, names := [(".0", .local), ("part", .local), ("countOf", .globalImplicit), ("stretches", .free)], isGenerator := false, isCoroutine := false, more := [] }
noncomputable def sc12 : Scope := { kind := .function, names := [(".0", .local), ("k", .local), ("part", .local), ("stretches", .free)], isGenerator := false, isCoroutine := false, more := [] }
noncomputable def sc13 : Scope := { kind := .function, names := [(".0", .local), ("other", .local), ("contains", .globalImplicit), ("one", .free)], isGenerator := false, isCoroutine := false, more := [] }
/-- contains(a, b) -/
noncomputable def b_contains : Ss :=
  (.cons (.ret (.cmp .isin (.var 11 ⟨3, 11, 3, 12⟩) (.var 10 ⟨3, 16, 3, 17⟩) ⟨3, 11, 3, 17⟩) ⟨3, 4, 3, 17⟩)
  .nil)
/-- countOf(a, b) -/
noncomputable def b_countOf : Ss :=
  (.cons (.assign 13 (.int (0) ⟨5, 12, 5, 13⟩) ⟨5, 4, 5, 9⟩ ⟨5, 4, 5, 13⟩)
  (.cons (.for (.one 14 ⟨6, 8, 6, 9⟩) (.of (.var 10 ⟨6, 13, 6, 14⟩)) (.cons (.ite (.isOrEq 14 11 ⟨7, 11, 7, 12⟩ ⟨7, 16, 7, 17⟩ ⟨7, 21, 7, 22⟩ ⟨7, 26, 7, 27⟩ ⟨7, 11, 7, 17⟩ ⟨7, 21, 7, 27⟩ ⟨7, 11, 7, 27⟩) (.cons (.aug 13 (.int (1) ⟨8, 21, 8, 22⟩) ⟨8, 12, 8, 17⟩ ⟨8, 12, 8, 22⟩)
  .nil) .nil ⟨7, 8, 8, 22⟩)
  .nil) ⟨6, 4, 8, 22⟩)
  (.cons (.ret (.var 13 ⟨9, 11, 9, 16⟩) ⟨9, 4, 9, 16⟩)
  .nil)))
/-- _deduplicate_unhashable(unhashable_params) -/
noncomputable def b_deduplicate_unhashable : Ss :=
  (.cons (.own 1 .nil ⟨12, 21, 12, 23⟩ ⟨12, 4, 12, 18⟩ ⟨12, 4, 12, 23⟩)
  (.cons (.for (.one 2 ⟨13, 8, 13, 9⟩) (.of (.var 0 ⟨13, 13, 13, 30⟩)) (.cons (.ite (.cmp .notin (.var 2 ⟨14, 11, 14, 12⟩) (.var 1 ⟨14, 20, 14, 34⟩) ⟨14, 11, 14, 34⟩) (.cons (.append 1 (.var 2 ⟨15, 34, 15, 35⟩) ⟨15, 12, 15, 26⟩ ⟨15, 12, 15, 33⟩ ⟨15, 12, 15, 36⟩)
  .nil) .nil ⟨14, 8, 15, 36⟩)
  .nil) ⟨13, 4, 15, 36⟩)
  (.cons (.ret (.var 1 ⟨16, 11, 16, 25⟩) ⟨16, 4, 16, 25⟩)
  .nil)))
/-- _compare_args_orderless(first_args, second_args) -/
noncomputable def b_compare_args_orderless : Ss :=
  (.cons (.assign 6 (.call 3 (.cons (.var 4 ⟨18, 47, 18, 57⟩) .nil) ⟨18, 23, 18, 46⟩ ⟨18, 23, 18, 58⟩) ⟨18, 4, 18, 20⟩ ⟨18, 4, 18, 58⟩)
  (.cons (.assign 8 (.call 3 (.cons (.var 5 ⟨19, 48, 19, 59⟩) .nil) ⟨19, 24, 19, 47⟩ ⟨19, 24, 19, 60⟩) ⟨19, 4, 19, 21⟩ ⟨19, 4, 19, 60⟩)
  (.cons (.copy 2 (.var 8 ⟨20, 13, 20, 30⟩) ⟨20, 8, 20, 12⟩ ⟨20, 8, 20, 31⟩ ⟨20, 4, 20, 5⟩ ⟨20, 4, 20, 31⟩)
  (.cons (.tryRemove 2 6 7 ⟨22, 12, 22, 16⟩ ⟨22, 20, 22, 36⟩ ⟨23, 12, 23, 13⟩ ⟨23, 12, 23, 20⟩ ⟨23, 21, 23, 25⟩ ⟨23, 12, 23, 26⟩ ⟨22, 8, 23, 26⟩ ⟨24, 11, 24, 21⟩ ⟨25, 15, 25, 20⟩ ⟨25, 8, 25, 20⟩ ⟨24, 4, 25, 20⟩ ⟨21, 4, 25, 20⟩)
  (.cons (.ret (.notL 2 ⟨26, 15, 26, 16⟩ ⟨26, 11, 26, 16⟩) ⟨26, 4, 26, 16⟩)
  .nil)))))
/-- _law_word(script) -/
noncomputable def b_law_word : Ss :=
  (.cons (.assign 18 (.str "" ⟨29, 11, 29, 13⟩) ⟨29, 4, 29, 8⟩ ⟨29, 4, 29, 13⟩)
  (.cons (.for (.tup [(19, ⟨30, 8, 30, 9⟩), (20, ⟨30, 11, 30, 16⟩)] ⟨30, 8, 30, 16⟩) (.enum (.list (.cons (.int (0) ⟨30, 31, 30, 32⟩) (.cons (.int (2) ⟨30, 34, 30, 35⟩) (.cons (.int (0) ⟨30, 37, 30, 38⟩) (.cons (.int (4) ⟨30, 40, 30, 41⟩) (.cons (.int (1) ⟨30, 43, 30, 44⟩) (.cons (.int (3) ⟨30, 46, 30, 47⟩) .nil)))))) ⟨30, 30, 30, 48⟩) ⟨30, 20, 30, 29⟩ ⟨30, 20, 30, 49⟩) (.cons (.assign 18 (.bin .add (.var 18 ⟨31, 15, 31, 19⟩) (.item (.str "aabbc" ⟨31, 22, 31, 29⟩) (.bin .mod (.bin .add (.var 20 ⟨31, 31, 31, 36⟩) (.sum (.slice (.var 16 ⟨31, 43, 31, 49⟩) (.var 19 ⟨31, 50, 31, 51⟩) (.int (24) ⟨31, 52, 31, 54⟩) (.int (6) ⟨31, 55, 31, 56⟩) ⟨31, 50, 31, 56⟩ ⟨31, 43, 31, 57⟩) ⟨31, 39, 31, 42⟩ ⟨31, 39, 31, 58⟩) ⟨31, 31, 31, 58⟩) (.int (5) ⟨31, 62, 31, 63⟩) ⟨31, 30, 31, 63⟩) ⟨31, 22, 31, 64⟩) ⟨31, 15, 31, 64⟩) ⟨31, 8, 31, 12⟩ ⟨31, 8, 31, 64⟩)
  .nil) ⟨30, 4, 31, 64⟩)
  (.cons (.ret (.var 18 ⟨32, 11, 32, 15⟩) ⟨32, 4, 32, 15⟩)
  .nil)))
/-- _law_stretches(word, size) -/
noncomputable def b_law_stretches : Ss :=
  (.cons (.ret (.comp (.slice (.var 18 ⟨34, 12, 34, 16⟩) (.var 19 ⟨34, 17, 34, 18⟩) (.bin .add (.var 19 ⟨34, 19, 34, 20⟩) (.var 22 ⟨34, 23, 34, 27⟩) ⟨34, 19, 34, 27⟩) .nothing ⟨34, 17, 34, 27⟩ ⟨34, 12, 34, 28⟩) (.gen (.one 19 ⟨34, 33, 34, 34⟩) (.range1 (.bin .add (.bin .sub (.len (.var 18 ⟨34, 48, 34, 52⟩) ⟨34, 44, 34, 47⟩ ⟨34, 44, 34, 53⟩) (.var 22 ⟨34, 56, 34, 60⟩) ⟨34, 44, 34, 60⟩) (.int (1) ⟨34, 63, 34, 64⟩) ⟨34, 44, 34, 64⟩) ⟨34, 38, 34, 43⟩ ⟨34, 38, 34, 65⟩) .nil .done) sc0 ⟨34, 11, 34, 66⟩) ⟨34, 4, 34, 66⟩)
  .nil)
/-- _law_missing(word) -/
noncomputable def b_law_missing : Ss :=
  (.cons (.ownComp 24 (.var 28 ⟨36, 15, 36, 16⟩) (.one 28 ⟨36, 21, 36, 22⟩) (.of (.str "abc" ⟨36, 26, 36, 31⟩)) (.cons (.cmp .isnot (.call 12 (.cons (.var 18 ⟨36, 44, 36, 48⟩) (.cons (.var 28 ⟨36, 50, 36, 51⟩) .nil)) ⟨36, 35, 36, 43⟩ ⟨36, 35, 36, 52⟩) (.bool true ⟨36, 60, 36, 64⟩) ⟨36, 35, 36, 64⟩) .nil) .done sc4 ⟨36, 14, 36, 65⟩ ⟨36, 4, 36, 11⟩ ⟨36, 4, 36, 65⟩)
  (.cons (.for (.one 22 ⟨37, 8, 37, 12⟩) (.range1 (.len (.var 18 ⟨37, 26, 37, 30⟩) ⟨37, 22, 37, 25⟩ ⟨37, 22, 37, 31⟩) ⟨37, 16, 37, 21⟩ ⟨37, 16, 37, 32⟩) (.cons (.for (.one 25 ⟨38, 12, 38, 16⟩) (.of (.call 3 (.cons (.call 23 (.cons (.var 18 ⟨38, 59, 38, 63⟩) (.cons (.var 22 ⟨38, 65, 38, 69⟩) .nil)) ⟨38, 44, 38, 58⟩ ⟨38, 44, 38, 70⟩) .nil) ⟨38, 20, 38, 43⟩ ⟨38, 20, 38, 71⟩)) (.cons (.assign 31 (.comp (.var 28 ⟨39, 21, 39, 22⟩) (.gen (.one 28 ⟨39, 27, 39, 28⟩) (.of (.str "abc" ⟨39, 32, 39, 37⟩)) (.cons (.cmp .is (.call 12 (.cons (.var 18 ⟨39, 50, 39, 54⟩) (.cons (.bin .add (.var 28 ⟨39, 56, 39, 57⟩) (.var 25 ⟨39, 60, 39, 64⟩) ⟨39, 56, 39, 64⟩) .nil)) ⟨39, 41, 39, 49⟩ ⟨39, 41, 39, 65⟩) (.bool true ⟨39, 69, 39, 73⟩) ⟨39, 41, 39, 73⟩) .nil) .done) sc3 ⟨39, 20, 39, 74⟩) ⟨39, 12, 39, 17⟩ ⟨39, 12, 39, 74⟩)
  (.cons (.assign 30 (.comp (.var 28 ⟨40, 22, 40, 23⟩) (.gen (.one 28 ⟨40, 28, 40, 29⟩) (.of (.str "abc" ⟨40, 33, 40, 38⟩)) (.cons (.cmp .is (.call 12 (.cons (.var 18 ⟨40, 51, 40, 55⟩) (.cons (.bin .add (.var 25 ⟨40, 57, 40, 61⟩) (.var 28 ⟨40, 64, 40, 65⟩) ⟨40, 57, 40, 65⟩) .nil)) ⟨40, 42, 40, 50⟩ ⟨40, 42, 40, 66⟩) (.bool true ⟨40, 70, 40, 74⟩) ⟨40, 42, 40, 74⟩) .nil) .done) sc3 ⟨40, 21, 40, 75⟩) ⟨40, 12, 40, 18⟩ ⟨40, 12, 40, 75⟩)
  (.cons (.assign 27 (.comp (.bin .add (.bin .add (.var 28 ⟨41, 21, 41, 22⟩) (.var 25 ⟨41, 25, 41, 29⟩) ⟨41, 21, 41, 29⟩) (.var 29 ⟨41, 32, 41, 33⟩) ⟨41, 21, 41, 33⟩) (.gen (.one 28 ⟨41, 38, 41, 39⟩) (.of (.var 31 ⟨41, 43, 41, 48⟩)) .nil (.gen (.one 29 ⟨41, 53, 41, 54⟩) (.of (.var 30 ⟨41, 58, 41, 64⟩)) .nil .done)) sc2 ⟨41, 20, 41, 65⟩) ⟨41, 12, 41, 17⟩ ⟨41, 12, 41, 65⟩)
  (.cons (.extend 24 (.comp (.var 26 ⟨42, 28, 42, 32⟩) (.gen (.one 26 ⟨42, 37, 42, 41⟩) (.of (.var 27 ⟨42, 45, 42, 50⟩)) (.cons (.cmp .isnot (.call 12 (.cons (.var 18 ⟨42, 63, 42, 67⟩) (.cons (.var 26 ⟨42, 69, 42, 73⟩) .nil)) ⟨42, 54, 42, 62⟩ ⟨42, 54, 42, 74⟩) (.bool true ⟨42, 82, 42, 86⟩) ⟨42, 54, 42, 86⟩) .nil) .done) sc1 ⟨42, 27, 42, 87⟩) ⟨42, 12, 42, 19⟩ ⟨42, 12, 42, 26⟩ ⟨42, 12, 42, 88⟩)
  .nil)))) ⟨38, 8, 42, 88⟩)
  .nil) ⟨37, 4, 42, 88⟩)
  (.cons (.ret (.var 24 ⟨43, 11, 43, 18⟩) ⟨43, 4, 43, 18⟩)
  .nil)))
/-- _law_grown(level, missing) -/
noncomputable def b_law_grown : Ss :=
  (.cons (.assign 34 (.comp (.bin .add (.var 25 ⟨45, 14, 45, 18⟩) (.var 28 ⟨45, 21, 45, 22⟩) ⟨45, 14, 45, 22⟩) (.gen (.one 25 ⟨45, 27, 45, 31⟩) (.of (.var 33 ⟨45, 35, 45, 40⟩)) .nil (.gen (.one 28 ⟨45, 45, 45, 46⟩) (.of (.str "abc" ⟨45, 50, 45, 55⟩)) .nil .done)) sc7 ⟨45, 13, 45, 56⟩) ⟨45, 4, 45, 10⟩ ⟨45, 4, 45, 56⟩)
  (.cons (.ret (.comp (.var 25 ⟨46, 12, 46, 16⟩) (.gen (.one 25 ⟨46, 21, 46, 25⟩) (.of (.var 34 ⟨46, 29, 46, 35⟩)) (.cons (.cmp .eq (.comp (.var 35 ⟨46, 40, 46, 43⟩) (.gen (.one 35 ⟨46, 48, 46, 51⟩) (.of (.var 24 ⟨46, 55, 46, 62⟩)) (.cons (.cmp .isnot (.call 12 (.cons (.var 25 ⟨46, 75, 46, 79⟩) (.cons (.var 35 ⟨46, 81, 46, 84⟩) .nil)) ⟨46, 66, 46, 74⟩ ⟨46, 66, 46, 85⟩) (.bool false ⟨46, 93, 46, 98⟩) ⟨46, 66, 46, 98⟩) .nil) .done) sc5 ⟨46, 39, 46, 99⟩) (.list .nil ⟨46, 103, 46, 105⟩) ⟨46, 39, 46, 105⟩) .nil) .done) sc6 ⟨46, 11, 46, 106⟩) ⟨46, 4, 46, 106⟩)
  .nil))
/-- _law_exchanged(text) -/
noncomputable def b_law_exchanged : Ss :=
  (.cons (.ret (.join (.str "" ⟨48, 11, 48, 13⟩) (.comp (.item (.str "bac" ⟨48, 20, 48, 25⟩) (.index (.str "abc" ⟨48, 26, 48, 31⟩) (.var 28 ⟨48, 38, 48, 39⟩) ⟨48, 26, 48, 37⟩ ⟨48, 26, 48, 40⟩) ⟨48, 20, 48, 41⟩) (.gen (.one 28 ⟨48, 46, 48, 47⟩) (.of (.var 26 ⟨48, 51, 48, 55⟩)) .nil .done) sc8 ⟨48, 19, 48, 56⟩) ⟨48, 11, 48, 18⟩ ⟨48, 11, 48, 57⟩) ⟨48, 4, 48, 57⟩)
  .nil)
/-- law(script) -/
noncomputable def b_law : Ss :=
  (.cons (.assign 18 (.call 21 (.cons (.var 16 ⟨50, 21, 50, 27⟩) .nil) ⟨50, 11, 50, 20⟩ ⟨50, 11, 50, 28⟩) ⟨50, 4, 50, 8⟩ ⟨50, 4, 50, 28⟩)
  (.cons (.assign 24 (.call 32 (.cons (.var 18 ⟨51, 27, 51, 31⟩) .nil) ⟨51, 14, 51, 26⟩ ⟨51, 14, 51, 32⟩) ⟨51, 4, 51, 11⟩ ⟨51, 4, 51, 32⟩)
  (.cons (.for (.one 35 ⟨52, 8, 52, 11⟩) (.of (.var 24 ⟨52, 15, 52, 22⟩)) (.cons (.ite (.cmp .ne (.call 15 (.cons (.comp (.call 12 (.cons (.var 35 ⟨53, 29, 53, 32⟩) (.cons (.var 45 ⟨53, 34, 53, 39⟩) .nil)) ⟨53, 20, 53, 28⟩ ⟨53, 20, 53, 40⟩) (.gen (.one 45 ⟨53, 45, 53, 50⟩) (.of (.var 24 ⟨53, 54, 53, 61⟩)) .nil .done) sc13 ⟨53, 19, 53, 62⟩) (.cons (.bool true ⟨53, 64, 53, 68⟩) .nil)) ⟨53, 11, 53, 18⟩ ⟨53, 11, 53, 69⟩) (.int (1) ⟨53, 73, 53, 74⟩) ⟨53, 11, 53, 74⟩) (.cons (.ret (.bool false ⟨54, 19, 54, 24⟩) ⟨54, 12, 54, 24⟩)
  .nil) .nil ⟨53, 8, 54, 24⟩)
  .nil) ⟨52, 4, 54, 24⟩)
  (.cons (.assign 44 (.slice (.var 24 ⟨55, 12, 55, 19⟩) (.int (1) ⟨55, 20, 55, 21⟩) .nothing .nothing ⟨55, 20, 55, 22⟩ ⟨55, 12, 55, 23⟩) ⟨55, 4, 55, 9⟩ ⟨55, 4, 55, 23⟩)
  (.cons (.ite (.or2 (.cmp .isnot (.call 9 (.cons (.var 44 ⟨56, 31, 56, 36⟩) (.cons (.var 24 ⟨56, 38, 56, 45⟩) .nil)) ⟨56, 7, 56, 30⟩ ⟨56, 7, 56, 46⟩) (.bool false ⟨56, 54, 56, 59⟩) ⟨56, 7, 56, 59⟩) (.cmp .isnot (.call 9 (.cons (.var 24 ⟨56, 87, 56, 94⟩) (.cons (.var 44 ⟨56, 96, 56, 101⟩) .nil)) ⟨56, 63, 56, 86⟩ ⟨56, 63, 56, 102⟩) (.bool false ⟨56, 110, 56, 115⟩) ⟨56, 63, 56, 115⟩) ⟨56, 7, 56, 115⟩) (.cons (.ret (.bool false ⟨57, 15, 57, 20⟩) ⟨57, 8, 57, 20⟩)
  .nil) .nil ⟨56, 4, 57, 20⟩)
  (.cons (.assign 33 (.list (.cons (.str "" ⟨58, 13, 58, 15⟩) .nil) ⟨58, 12, 58, 16⟩) ⟨58, 4, 58, 9⟩ ⟨58, 4, 58, 16⟩)
  (.cons (.for (.one 22 ⟨59, 8, 59, 12⟩) (.range2 (.int (1) ⟨59, 22, 59, 23⟩) (.bin .add (.len (.var 18 ⟨59, 29, 59, 33⟩) ⟨59, 25, 59, 28⟩ ⟨59, 25, 59, 34⟩) (.int (1) ⟨59, 37, 59, 38⟩) ⟨59, 25, 59, 38⟩) ⟨59, 16, 59, 21⟩ ⟨59, 16, 59, 39⟩) (.cons (.assign 33 (.call 36 (.cons (.var 33 ⟨60, 27, 60, 32⟩) (.cons (.var 24 ⟨60, 34, 60, 41⟩) .nil)) ⟨60, 16, 60, 26⟩ ⟨60, 16, 60, 42⟩) ⟨60, 8, 60, 13⟩ ⟨60, 8, 60, 42⟩)
  (.cons (.assign 42 (.call 23 (.cons (.var 18 ⟨61, 35, 61, 39⟩) (.cons (.var 22 ⟨61, 41, 61, 45⟩) .nil)) ⟨61, 20, 61, 34⟩ ⟨61, 20, 61, 46⟩) ⟨61, 8, 61, 17⟩ ⟨61, 8, 61, 46⟩)
  (.cons (.assign 43 (.comp (.var 25 ⟨62, 18, 62, 22⟩) (.gen (.tup [(19, ⟨62, 27, 62, 28⟩), (25, ⟨62, 30, 62, 34⟩)] ⟨62, 27, 62, 34⟩) (.enum (.var 42 ⟨62, 48, 62, 57⟩) ⟨62, 38, 62, 47⟩ ⟨62, 38, 62, 58⟩) (.cons (.cmp .notin (.var 25 ⟨62, 62, 62, 66⟩) (.slice (.var 42 ⟨62, 74, 62, 83⟩) .nothing (.var 19 ⟨62, 85, 62, 86⟩) .nothing ⟨62, 84, 62, 86⟩ ⟨62, 74, 62, 87⟩) ⟨62, 62, 62, 87⟩) .nil) .done) sc12 ⟨62, 17, 62, 88⟩) ⟨62, 8, 62, 14⟩ ⟨62, 8, 62, 88⟩)
  (.cons (.ite (.or2 (.cmp .isnot (.call 9 (.cons (.var 33 ⟨63, 35, 63, 40⟩) (.cons (.var 42 ⟨63, 42, 63, 51⟩) .nil)) ⟨63, 11, 63, 34⟩ ⟨63, 11, 63, 52⟩) (.bool true ⟨63, 60, 63, 64⟩) ⟨63, 11, 63, 64⟩) (.cmp .ne (.len (.var 33 ⟨63, 72, 63, 77⟩) ⟨63, 68, 63, 71⟩ ⟨63, 68, 63, 78⟩) (.len (.var 43 ⟨63, 86, 63, 92⟩) ⟨63, 82, 63, 85⟩ ⟨63, 82, 63, 93⟩) ⟨63, 68, 63, 93⟩) ⟨63, 11, 63, 93⟩) (.cons (.ret (.bool false ⟨64, 19, 64, 24⟩) ⟨64, 12, 64, 24⟩)
  .nil) .nil ⟨63, 8, 64, 24⟩)
  (.cons (.ite (.cmp .ne (.sum (.comp (.call 15 (.cons (.var 42 ⟨65, 24, 65, 33⟩) (.cons (.var 25 ⟨65, 35, 65, 39⟩) .nil)) ⟨65, 16, 65, 23⟩ ⟨65, 16, 65, 40⟩) (.gen (.one 25 ⟨65, 45, 65, 49⟩) (.of (.var 33 ⟨65, 53, 65, 58⟩)) .nil .done) sc11 ⟨65, 15, 65, 59⟩) ⟨65, 11, 65, 14⟩ ⟨65, 11, 65, 60⟩) (.len (.var 42 ⟨65, 68, 65, 77⟩) ⟨65, 64, 65, 67⟩ ⟨65, 64, 65, 78⟩) ⟨65, 11, 65, 78⟩) (.cons (.ret (.bool false ⟨66, 19, 66, 24⟩) ⟨66, 12, 66, 24⟩)
  .nil) .nil ⟨65, 8, 66, 24⟩)
  (.cons (.ite (.cmp .ne (.call 3 (.cons (.var 42 ⟨67, 35, 67, 44⟩) .nil) ⟨67, 11, 67, 34⟩ ⟨67, 11, 67, 45⟩) (.var 43 ⟨67, 49, 67, 55⟩) ⟨67, 11, 67, 55⟩) (.cons (.ret (.bool false ⟨68, 19, 68, 24⟩) ⟨68, 12, 68, 24⟩)
  .nil) .nil ⟨67, 8, 68, 24⟩)
  .nil)))))) ⟨59, 4, 68, 24⟩)
  (.cons (.ite (.cmp .ne (.call 36 (.cons (.var 33 ⟨69, 18, 69, 23⟩) (.cons (.var 24 ⟨69, 25, 69, 32⟩) .nil)) ⟨69, 7, 69, 17⟩ ⟨69, 7, 69, 33⟩) (.list .nil ⟨69, 37, 69, 39⟩) ⟨69, 7, 69, 39⟩) (.cons (.ret (.bool false ⟨70, 15, 70, 20⟩) ⟨70, 8, 70, 20⟩)
  .nil) .nil ⟨69, 4, 70, 20⟩)
  (.cons (.assign 41 (.comp (.slice (.var 35 ⟨71, 14, 71, 17⟩) .nothing .nothing (.neg (.int (1) ⟨71, 21, 71, 22⟩) ⟨71, 20, 71, 22⟩) ⟨71, 18, 71, 22⟩ ⟨71, 14, 71, 23⟩) (.gen (.one 35 ⟨71, 28, 71, 31⟩) (.of (.var 24 ⟨71, 35, 71, 42⟩)) .nil .done) sc10 ⟨71, 13, 71, 43⟩) ⟨71, 4, 71, 10⟩ ⟨71, 4, 71, 43⟩)
  (.cons (.own 40 (.cons (.tuple (.cons (.var 41 ⟨72, 16, 72, 22⟩) (.cons (.slice (.var 18 ⟨72, 24, 72, 28⟩) .nothing .nothing (.neg (.int (1) ⟨72, 32, 72, 33⟩) ⟨72, 31, 72, 33⟩) ⟨72, 29, 72, 33⟩ ⟨72, 24, 72, 34⟩) .nil)) ⟨72, 15, 72, 35⟩) .nil) ⟨72, 14, 72, 36⟩ ⟨72, 4, 72, 11⟩ ⟨72, 4, 72, 36⟩)
  (.cons (.append 40 (.tuple (.cons (.comp (.call 37 (.cons (.var 35 ⟨73, 36, 73, 39⟩) .nil) ⟨73, 21, 73, 35⟩ ⟨73, 21, 73, 40⟩) (.gen (.one 35 ⟨73, 45, 73, 48⟩) (.of (.var 24 ⟨73, 52, 73, 59⟩)) .nil .done) sc9 ⟨73, 20, 73, 60⟩) (.cons (.call 37 (.cons (.var 18 ⟨73, 77, 73, 81⟩) .nil) ⟨73, 62, 73, 76⟩ ⟨73, 62, 73, 82⟩) .nil)) ⟨73, 19, 73, 83⟩) ⟨73, 4, 73, 11⟩ ⟨73, 4, 73, 18⟩ ⟨73, 4, 73, 84⟩)
  (.cons (.append 40 (.tuple (.cons (.comp (.call 37 (.cons (.var 35 ⟨74, 36, 74, 39⟩) .nil) ⟨74, 21, 74, 35⟩ ⟨74, 21, 74, 40⟩) (.gen (.one 35 ⟨74, 45, 74, 48⟩) (.of (.var 41 ⟨74, 52, 74, 58⟩)) .nil .done) sc9 ⟨74, 20, 74, 59⟩) (.cons (.call 37 (.cons (.slice (.var 18 ⟨74, 76, 74, 80⟩) .nothing .nothing (.neg (.int (1) ⟨74, 84, 74, 85⟩) ⟨74, 83, 74, 85⟩) ⟨74, 81, 74, 85⟩ ⟨74, 76, 74, 86⟩) .nil) ⟨74, 61, 74, 75⟩ ⟨74, 61, 74, 87⟩) .nil)) ⟨74, 19, 74, 88⟩) ⟨74, 4, 74, 11⟩ ⟨74, 4, 74, 18⟩ ⟨74, 4, 74, 89⟩)
  (.cons (.for (.tup [(38, ⟨75, 8, 75, 14⟩), (39, ⟨75, 16, 75, 23⟩)] ⟨75, 8, 75, 23⟩) (.of (.var 40 ⟨75, 27, 75, 34⟩)) (.cons (.ite (.cmp .isnot (.call 9 (.cons (.var 38 ⟨76, 35, 76, 41⟩) (.cons (.var 24 ⟨76, 43, 76, 50⟩) .nil)) ⟨76, 11, 76, 34⟩ ⟨76, 11, 76, 51⟩) (.cmp .eq (.var 39 ⟨76, 60, 76, 67⟩) (.var 18 ⟨76, 71, 76, 75⟩) ⟨76, 60, 76, 75⟩) ⟨76, 11, 76, 76⟩) (.cons (.ret (.bool false ⟨77, 19, 77, 24⟩) ⟨77, 12, 77, 24⟩)
  .nil) .nil ⟨76, 8, 77, 24⟩)
  .nil) ⟨75, 4, 77, 24⟩)
  (.cons (.ret (.bool true ⟨78, 11, 78, 15⟩) ⟨78, 4, 78, 15⟩)
  .nil))))))))))))))
theorem kf_0_22 (ρ : Vw) : keepFree tab sc0 ρ 22 = ρ 22 := keepFree_of (by kernel_rfl)
theorem kf_0_18 (ρ : Vw) : keepFree tab sc0 ρ 18 = ρ 18 := keepFree_of (by kernel_rfl)
theorem kf_1_18 (ρ : Vw) : keepFree tab sc1 ρ 18 = ρ 18 := keepFree_of (by kernel_rfl)
theorem kf_2_30 (ρ : Vw) : keepFree tab sc2 ρ 30 = ρ 30 := keepFree_of (by kernel_rfl)
theorem kf_2_25 (ρ : Vw) : keepFree tab sc2 ρ 25 = ρ 25 := keepFree_of (by kernel_rfl)
theorem kf_3_25 (ρ : Vw) : keepFree tab sc3 ρ 25 = ρ 25 := keepFree_of (by kernel_rfl)
theorem kf_3_18 (ρ : Vw) : keepFree tab sc3 ρ 18 = ρ 18 := keepFree_of (by kernel_rfl)
theorem kf_4_18 (ρ : Vw) : keepFree tab sc4 ρ 18 = ρ 18 := keepFree_of (by kernel_rfl)
theorem kf_5_25 (ρ : Vw) : keepFree tab sc5 ρ 25 = ρ 25 := keepFree_of (by kernel_rfl)
theorem kf_6_24 (ρ : Vw) : keepFree tab sc6 ρ 24 = ρ 24 := keepFree_of (by kernel_rfl)
theorem kf_11_42 (ρ : Vw) : keepFree tab sc11 ρ 42 = ρ 42 := keepFree_of (by kernel_rfl)
theorem kf_12_42 (ρ : Vw) : keepFree tab sc12 ρ 42 = ρ 42 := keepFree_of (by kernel_rfl)
theorem kf_13_35 (ρ : Vw) : keepFree tab sc13 ρ 35 = ρ 35 := keepFree_of (by kernel_rfl)
theorem kfs : (∀ ρ : Vw, keepFree tab sc0 ρ 22 = ρ 22) ∧ (∀ ρ : Vw, keepFree tab sc0 ρ 18 = ρ 18) ∧ (∀ ρ : Vw, keepFree tab sc1 ρ 18 = ρ 18) ∧ (∀ ρ : Vw, keepFree tab sc2 ρ 30 = ρ 30) ∧ (∀ ρ : Vw, keepFree tab sc2 ρ 25 = ρ 25) ∧ (∀ ρ : Vw, keepFree tab sc3 ρ 25 = ρ 25) ∧ (∀ ρ : Vw, keepFree tab sc3 ρ 18 = ρ 18) ∧ (∀ ρ : Vw, keepFree tab sc4 ρ 18 = ρ 18) ∧ (∀ ρ : Vw, keepFree tab sc5 ρ 25 = ρ 25) ∧ (∀ ρ : Vw, keepFree tab sc6 ρ 24 = ρ 24) ∧ (∀ ρ : Vw, keepFree tab sc11 ρ 42 = ρ 42) ∧ (∀ ρ : Vw, keepFree tab sc12 ρ 42 = ρ 42) ∧ (∀ ρ : Vw, keepFree tab sc13 ρ 35 = ρ 35) := ⟨kf_0_22, kf_0_18, kf_1_18, kf_2_30, kf_2_25, kf_3_25, kf_3_18, kf_4_18, kf_5_25, kf_6_24, kf_11_42, kf_12_42, kf_13_35⟩
noncomputable def defs : Defs := [(12, [10, 11], b_contains), (15, [10, 11], b_countOf), (3, [0], b_deduplicate_unhashable), (9, [4, 5], b_compare_args_orderless), (21, [16], b_law_word), (23, [18, 22], b_law_stretches), (32, [18], b_law_missing), (36, [33, 24], b_law_grown), (37, [26], b_law_exchanged), (17, [16], b_law)]
noncomputable def a_contains : Arguments := ⟨[], [⟨"a", none, ⟨2, 13, 2, 14⟩⟩, ⟨"b", none, ⟨2, 16, 2, 17⟩⟩], none, [], [], none, []⟩
theorem bd_contains : BindOk a_contains [tab 10, tab 11] := fun n body sc pm cd doc vs h => by
  obtain ⟨v, w, rfl⟩ := len2 h
  kernel_rfl
noncomputable def a_countOf : Arguments := ⟨[], [⟨"a", none, ⟨4, 12, 4, 13⟩⟩, ⟨"b", none, ⟨4, 15, 4, 16⟩⟩], none, [], [], none, []⟩
theorem bd_countOf : BindOk a_countOf [tab 10, tab 11] := fun n body sc pm cd doc vs h => by
  obtain ⟨v, w, rfl⟩ := len2 h
  kernel_rfl
noncomputable def a_deduplicate_unhashable : Arguments := ⟨[], [⟨"unhashable_params", none, ⟨11, 28, 11, 45⟩⟩], none, [], [], none, []⟩
theorem bd_deduplicate_unhashable : BindOk a_deduplicate_unhashable [tab 0] := fun n body sc pm cd doc vs h => by
  obtain ⟨v, rfl⟩ := len1 h
  kernel_rfl
noncomputable def a_compare_args_orderless : Arguments := ⟨[], [⟨"first_args", none, ⟨17, 28, 17, 38⟩⟩, ⟨"second_args", none, ⟨17, 40, 17, 51⟩⟩], none, [], [], none, []⟩
theorem bd_compare_args_orderless : BindOk a_compare_args_orderless [tab 4, tab 5] := fun n body sc pm cd doc vs h => by
  obtain ⟨v, w, rfl⟩ := len2 h
  kernel_rfl
noncomputable def a_law_word : Arguments := ⟨[], [⟨"script", none, ⟨28, 14, 28, 20⟩⟩], none, [], [], none, []⟩
theorem bd_law_word : BindOk a_law_word [tab 16] := fun n body sc pm cd doc vs h => by
  obtain ⟨v, rfl⟩ := len1 h
  kernel_rfl
noncomputable def a_law_stretches : Arguments := ⟨[], [⟨"word", none, ⟨33, 19, 33, 23⟩⟩, ⟨"size", none, ⟨33, 25, 33, 29⟩⟩], none, [], [], none, []⟩
theorem bd_law_stretches : BindOk a_law_stretches [tab 18, tab 22] := fun n body sc pm cd doc vs h => by
  obtain ⟨v, w, rfl⟩ := len2 h
  kernel_rfl
noncomputable def a_law_missing : Arguments := ⟨[], [⟨"word", none, ⟨35, 17, 35, 21⟩⟩], none, [], [], none, []⟩
theorem bd_law_missing : BindOk a_law_missing [tab 18] := fun n body sc pm cd doc vs h => by
  obtain ⟨v, rfl⟩ := len1 h
  kernel_rfl
noncomputable def a_law_grown : Arguments := ⟨[], [⟨"level", none, ⟨44, 15, 44, 20⟩⟩, ⟨"missing", none, ⟨44, 22, 44, 29⟩⟩], none, [], [], none, []⟩
theorem bd_law_grown : BindOk a_law_grown [tab 33, tab 24] := fun n body sc pm cd doc vs h => by
  obtain ⟨v, w, rfl⟩ := len2 h
  kernel_rfl
noncomputable def a_law_exchanged : Arguments := ⟨[], [⟨"text", none, ⟨47, 19, 47, 23⟩⟩], none, [], [], none, []⟩
theorem bd_law_exchanged : BindOk a_law_exchanged [tab 26] := fun n body sc pm cd doc vs h => by
  obtain ⟨v, rfl⟩ := len1 h
  kernel_rfl
noncomputable def a_law : Arguments := ⟨[], [⟨"script", none, ⟨49, 8, 49, 14⟩⟩], none, [], [], none, []⟩
theorem bd_law : BindOk a_law [tab 16] := fun n body sc pm cd doc vs h => by
  obtain ⟨v, rfl⟩ := len1 h
  kernel_rfl
noncomputable def argsL : List Arguments := [a_contains, a_countOf, a_deduplicate_unhashable, a_compare_args_orderless, a_law_word, a_law_stretches, a_law_missing, a_law_grown, a_law_exchanged, a_law]
theorem bindsL : BindsOk argsL (defs.map fun x => x.2.1.map tab) := ⟨bd_contains, bd_countOf, bd_deduplicate_unhashable, bd_compare_args_orderless, bd_law_word, bd_law_stretches, bd_law_missing, bd_law_grown, bd_law_exchanged, bd_law, trivial⟩

theorem tabOk : TabOk tab := mkTab_ok (by decide +kernel)
theorem recs : (recsOf PySem.Challenge.pw_wn0002_02).map (fun r => (r.name, r.body)) = defs.map (fun x => (tab x.1, x.2.2.toE tab)) := by kernel_rfl
theorem fits : (((recsOf PySem.Challenge.pw_wn0002_02).zip defs).all fun x => recFits tab x.1 x.2.2.1 x.2.2.2) = true := by kernel_rfl
theorem args : (recsOf PySem.Challenge.pw_wn0002_02).map (·.params) = argsL := by kernel_rfl
theorem binds : BindsOk ((recsOf PySem.Challenge.pw_wn0002_02).map (·.params)) (defs.map fun x => x.2.1.map tab) := by rw [args]; exact bindsL
end L02
end Mine
end

section
namespace Mine
open PySem PySem.W PyProof.Rows
namespace L02

theorem G_step {n i : Nat} {ds : List D} {ps : List Nat} {b : Ss} (h : defs.lookup i = some (ps, b)) : Gfix tab defs (n + 1) i ds = evDef tab (Gfix tab defs n) ps b ds := by
  show (match defs.lookup i with | some (ps, b) => evDef tab (Gfix tab defs n) ps b ds | none => none) = _
  rw [h]

section
variable {α : Type} [DecidableEq α] (E : Enc α)

theorem G_dedup {n : Nat} (hn : 1 ≤ n) (h : E.dep ≤ 48) (xs : List α) (hl : xs.length ≤ lim) : Gfix tab defs n 3 [.list (xs.map E.e)] = some (.list ((dedup xs).map E.e)) := by
  obtain ⟨n, rfl⟩ : ∃ m, n = m + 1 := ⟨n - 1, by omega⟩
  rw [G_step (i := 3) rfl]
  refine evDef_of rfl ?_
  unfold b_deduplicate_unhashable
  refine Ex.step (σ' := upd (argSt [0] [.list (xs.map E.e)]) 1 (true, .list [])) (by simp [exS_e1, exS_e2, exS_e3, exS_e4, exS_e5, exS_e6, exS_e7, exS_e8, exS_e9, exS_e10, exS_e11, exS_e12, exS_e13, evs_e1, evs_e2]) ?_
  refine Ex.loopE (e := E.e) (fun pre σ => σ 1 = some (true, .list ((pre.foldl addNew []).map E.e))) xs (by simp [evIt_e1, evIt_e2, evIt_e3, evIt_e4, ev_e1, ev_e2, ev_e3, ev_e4, ev_e5, ev_e6, ev_e7, ev_e8, ev_e9, ev_e10, ev_e11, ev_e12, ev_e13, ev_e14, ev_e15, ev_e16, ev_e17, ev_e18, ev_e19, ev_e20, ev_e21, ev_e22, ev_e23, ev_e24, ev_e25, ev_e26, ev_e27, ev_e28, St.frozen, upd, argSt, argGo, itemsD, hl]) (by simp [upd]) ?_ ?_
  · intro pre x post σ hx hσ
    refine ⟨_, rfl, ?_⟩
    have hlen : (pre.foldl addNew []).length ≤ lim := by
      have := length_foldNew pre []
      have : pre.length ≤ xs.length := by rw [hx]; simp
      simp at *; omega
    refine Ex.ite (!decide (x ∈ pre.foldl addNew [])) (by simp [ev_e1, ev_e2, ev_e3, ev_e4, ev_e5, ev_e6, ev_e7, ev_e8, ev_e9, ev_e10, ev_e11, ev_e12, ev_e13, ev_e14, ev_e15, ev_e16, ev_e17, ev_e18, ev_e19, ev_e20, ev_e21, ev_e22, ev_e23, ev_e24, ev_e25, ev_e26, ev_e27, ev_e28, St.full, upd, hσ, cmpD, inD_enc E (by omega : E.dep ≤ 49)]) (fun q => ?_) fun q => ?_
    · refine Ex.step (σ' := upd (upd σ 2 (false, E.e x)) 1 (true, .list ((pre.foldl addNew []).map E.e ++ [E.e x]))) ?_ (.nil (.nil ⟨rfl, ?_⟩))
      · simp [exS_e1, exS_e2, exS_e3, exS_e4, exS_e5, exS_e6, exS_e7, exS_e8, exS_e9, exS_e10, exS_e11, exS_e12, exS_e13, evK, ev_e1, ev_e2, ev_e3, ev_e4, ev_e5, ev_e6, ev_e7, ev_e8, ev_e9, ev_e10, ev_e11, ev_e12, ev_e13, ev_e14, ev_e15, ev_e16, ev_e17, ev_e18, ev_e19, ev_e20, ev_e21, ev_e22, ev_e23, ev_e24, ev_e25, ev_e26, ev_e27, ev_e28, St.frozen, upd, hσ, hlen]
      · simp at q
        simp [upd, List.foldl_append, addNew, q]
    · refine .nil (.nil ⟨rfl, ?_⟩)
      simp at q
      simp [upd, hσ, List.foldl_append, addNew, q]
  · intro σ hσ
    exact Ex.ret (by simp [ev_e1, ev_e2, ev_e3, ev_e4, ev_e5, ev_e6, ev_e7, ev_e8, ev_e9, ev_e10, ev_e11, ev_e12, ev_e13, ev_e14, ev_e15, ev_e16, ev_e17, ev_e18, ev_e19, ev_e20, ev_e21, ev_e22, ev_e23, ev_e24, ev_e25, ev_e26, ev_e27, ev_e28, St.full, hσ]; rfl) rfl

theorem rem_loop (t e y : Nat) (py : Pos) (hte : e ≠ t) (h : E.dep ≤ 48) : ∀ (xs ys : List α) (σ : St), xs.Nodup → ys.Nodup → ys.length ≤ lim → σ t = some (true, .list (ys.map E.e)) →
    ∃ σ', loopM (fun d σ' => (bindS (.one e py) d σ').bind fun σ'' => remStep t e σ'') (xs.map E.e) σ = some (σ', if xs.all (· ∈ ys) then .next else .ret (.bool false)) ∧ (xs.all (· ∈ ys) = true → σ' t = some (true, .list ((ys.filter fun y => !decide (y ∈ xs)).map E.e)))
  | [], ys, σ, _, _, _, hσ => ⟨σ, rfl, fun _ => by simpa [List.filter_eq_self.mpr] using hσ⟩
  | x :: xs, ys, σ, hx, hy, hl, hσ => by
    have hx' := List.nodup_cons.mp hx
    have er : ∀ ys : List α, ys.Nodup → eraseFst (E.e x) (ys.map E.e) = if x ∈ ys then some ((ys.filter fun y => !decide (y = x)).map E.e) else none := by
      intro ys hy
      induction ys with
      | nil => simp [eraseFst]
      | cons y r ih =>
        have hy' := List.nodup_cons.mp hy
        simp only [List.map_cons, eraseFst, E.eq]
        by_cases q : y = x
        · subst q
          have : r.filter (fun z => !decide (z = y)) = r := List.filter_eq_self.mpr fun z hz => by
            have : z ≠ y := fun e => hy'.1 (e ▸ hz)
            simp [this]
          simp [this]
        · have q' : ¬ x = y := fun e => q e.symm
          simp only [q, decide_false, Bool.false_eq_true, if_false, ih hy'.2, List.mem_cons, q', false_or]
          by_cases z : x ∈ r <;> simp [z, q]
    have h1 : okD (E.e x) = true := okD_enc E (by omega) x
    have h2 : okD (.list (ys.map E.e)) = true := okDL_enc E (by omega) ys
    have st : (bindS (.one e py) (E.e x) σ).bind (fun σ'' => remStep t e σ'') = if x ∈ ys then some (upd (upd σ e (false, E.e x)) t (true, .list ((ys.filter fun y => !decide (y = x)).map E.e)), .next) else some (upd σ e (false, E.e x), .ret (.bool false)) := by
      have hte' : ¬ t = e := fun q => hte q.symm
      simp only [bindS, Option.bind_some, remStep, upd, if_true, hte', if_false, hσ, h1, h2, List.length_map, hl, decide_true, Bool.and_self, er ys hy]
      by_cases z : x ∈ ys <;> simp [z]
    by_cases z : x ∈ ys
    · rw [if_pos z] at st
      obtain ⟨σ', h3, h4⟩ := rem_loop t e y py hte h xs (ys.filter fun y => !decide (y = x)) (upd (upd σ e (false, E.e x)) t (true, .list ((ys.filter fun y => !decide (y = x)).map E.e))) hx'.2 (hy.sublist List.filter_sublist) (Nat.le_trans (List.length_filter_le ..) hl) (by simp [upd])
      have hall : xs.all (· ∈ ys.filter fun y => !decide (y = x)) = (x :: xs).all (· ∈ ys) := by
        rw [Bool.eq_iff_iff]
        simp only [List.all_eq_true, decide_eq_true_eq, List.mem_filter, List.mem_cons, Bool.not_eq_true', decide_eq_false_iff_not]
        exact ⟨fun q w hw => hw.elim (fun e => e ▸ z) fun hw => (q w hw).1, fun q w hw => ⟨q w (.inr hw), fun e => hx'.1 (e ▸ hw)⟩⟩
      rw [hall] at h3 h4
      refine ⟨σ', by simp only [List.map_cons, loopM, st]; exact h3, fun q => ?_⟩
      rw [h4 q, List.filter_filter]
      have : ∀ w, ((!decide (w ∈ xs)) && !decide (w = x)) = !decide (w ∈ x :: xs) := fun w => by
        by_cases a : w = x <;> by_cases b : w ∈ xs <;> simp [a, b]
      simp only [this]
    · rw [if_neg z] at st
      have hall : (x :: xs).all (· ∈ ys) = false := by simp [z]
      exact ⟨_, by simp only [List.map_cons, loopM, st, hall]; rfl, fun q => by rw [hall] at q; cases q⟩

theorem G_compare {n : Nat} (hn : 2 ≤ n) (h : E.dep ≤ 48) (xs ys : List α) (hx : xs.length ≤ lim) (hy : ys.length ≤ lim) : Gfix tab defs n 9 [.list (xs.map E.e), .list (ys.map E.e)] = some (.bool (same xs ys)) := by
  obtain ⟨n, rfl⟩ : ∃ m, n = m + 1 := ⟨n - 1, by omega⟩
  rw [G_step (i := 9) rfl]
  refine evDef_of rfl ?_
  unfold b_compare_args_orderless
  have d1 : (dedup xs).length ≤ lim := Nat.le_trans (length_dedup xs) hx
  have d2 : (dedup ys).length ≤ lim := Nat.le_trans (length_dedup ys) hy
  refine Ex.step (σ' := upd (argSt [4, 5] [.list (xs.map E.e), .list (ys.map E.e)]) 6 (false, .list ((dedup xs).map E.e))) (by simp [exS_e1, exS_e2, exS_e3, exS_e4, exS_e5, exS_e6, exS_e7, exS_e8, exS_e9, exS_e10, exS_e11, exS_e12, exS_e13, evK, ev_e1, ev_e2, ev_e3, ev_e4, ev_e5, ev_e6, ev_e7, ev_e8, ev_e9, ev_e10, ev_e11, ev_e12, ev_e13, ev_e14, ev_e15, ev_e16, ev_e17, ev_e18, ev_e19, ev_e20, ev_e21, ev_e22, ev_e23, ev_e24, ev_e25, ev_e26, ev_e27, ev_e28, evs_e1, evs_e2, St.frozen, upd, argSt, argGo, G_dedup E (by omega : 1 ≤ n) h xs hx]) ?_
  refine Ex.step (σ' := upd _ 8 (false, .list ((dedup ys).map E.e))) (by simp [exS_e1, exS_e2, exS_e3, exS_e4, exS_e5, exS_e6, exS_e7, exS_e8, exS_e9, exS_e10, exS_e11, exS_e12, exS_e13, evK, ev_e1, ev_e2, ev_e3, ev_e4, ev_e5, ev_e6, ev_e7, ev_e8, ev_e9, ev_e10, ev_e11, ev_e12, ev_e13, ev_e14, ev_e15, ev_e16, ev_e17, ev_e18, ev_e19, ev_e20, ev_e21, ev_e22, ev_e23, ev_e24, ev_e25, ev_e26, ev_e27, ev_e28, evs_e1, evs_e2, St.frozen, upd, argSt, argGo, G_dedup E (by omega : 1 ≤ n) h ys hy]; rfl) ?_
  refine Ex.step (σ' := upd _ 2 (true, .list ((dedup ys).map E.e))) (by simp [exS_e1, exS_e2, exS_e3, exS_e4, exS_e5, exS_e6, exS_e7, exS_e8, exS_e9, exS_e10, exS_e11, exS_e12, exS_e13, ev_e1, ev_e2, ev_e3, ev_e4, ev_e5, ev_e6, ev_e7, ev_e8, ev_e9, ev_e10, ev_e11, ev_e12, ev_e13, ev_e14, ev_e15, ev_e16, ev_e17, ev_e18, ev_e19, ev_e20, ev_e21, ev_e22, ev_e23, ev_e24, ev_e25, ev_e26, ev_e27, ev_e28, St.frozen, upd, d2]; rfl) ?_
  suffices key : ∀ σ : St, σ 2 = some (true, .list ((dedup ys).map E.e)) → σ 6 = some (false, .list ((dedup xs).map E.e)) → Ex tab (Gfix tab defs n) _ σ _ from key _ (by simp [upd]) (by simp [upd])
  intro σ s2 s6
  obtain ⟨σ', h1, h2⟩ := rem_loop E 2 7 6 default (by decide) h (dedup xs) (dedup ys) σ (nodup_dedup xs) (nodup_dedup ys) d2 s2
  have hs : same xs ys = ((dedup xs).all (· ∈ dedup ys) && (dedup ys).all (· ∈ dedup xs)) := by
    rw [Bool.eq_iff_iff, same_iff]
    simp only [Bool.and_eq_true, List.all_eq_true, decide_eq_true_eq, mem_dedup]
    exact ⟨fun q => ⟨fun x => (q x).1, fun x => (q x).2⟩, fun ⟨a, b⟩ x => ⟨a x, b x⟩⟩
  refine Ex.cons ⟨σ', if (dedup xs).all (· ∈ dedup ys) then .next else .ret (.bool false), ?_, ?_⟩
  · rw [← h1]
    have e1 : ∀ p, evIt tab (Gfix tab defs n) (.of (.var 6 p)) σ.frozen = some ((dedup xs).map E.e) := by
      intro p
      simp only [evIt_e1, evIt_e2, evIt_e3, evIt_e4, ev_e1, ev_e2, ev_e3, ev_e4, ev_e5, ev_e6, ev_e7, ev_e8, ev_e9, ev_e10, ev_e11, ev_e12, ev_e13, ev_e14, ev_e15, ev_e16, ev_e17, ev_e18, ev_e19, ev_e20, ev_e21, ev_e22, ev_e23, ev_e24, ev_e25, ev_e26, ev_e27, ev_e28, St.frozen, s6, Option.bind_some]
      exact itemsD_list (by simpa using d1)
    simp only [exS_e1, exS_e2, exS_e3, exS_e4, exS_e5, exS_e6, exS_e7, exS_e8, exS_e9, exS_e10, exS_e11, exS_e12, exS_e13, e1, Option.bind_some]
    rfl
  · rw [hs]
    cases q : (dedup xs).all (· ∈ dedup ys) with
    | false => simp
    | true =>
      have := h2 q
      rw [if_pos rfl]
      refine Ex.ret (d := .bool ((dedup ys).all (· ∈ dedup xs))) ?_ (by simp)
      have hle : ((dedup ys).filter fun y => !decide (y ∈ dedup xs)).length ≤ lim := Nat.le_trans (List.length_filter_le ..) d2
      simp only [ev_e1, ev_e2, ev_e3, ev_e4, ev_e5, ev_e6, ev_e7, ev_e8, ev_e9, ev_e10, ev_e11, ev_e12, ev_e13, ev_e14, ev_e15, ev_e16, ev_e17, ev_e18, ev_e19, ev_e20, ev_e21, ev_e22, ev_e23, ev_e24, ev_e25, ev_e26, ev_e27, ev_e28, St.full, this, Option.map_some, List.length_map, hle, if_true]
      congr 2
      rw [Bool.eq_iff_iff]
      simp [List.filter_eq_nil_iff]

theorem G_countOf {n : Nat} (hn : 1 ≤ n) (h : E.dep ≤ 48) (xs : List α) (x : α) (hl : xs.length ≤ lim) : Gfix tab defs n 15 [.list (xs.map E.e), E.e x] = some (.int (cnt xs x)) := by
  obtain ⟨n, rfl⟩ : ∃ m, n = m + 1 := ⟨n - 1, by omega⟩
  rw [G_step (i := 15) rfl]
  refine evDef_of rfl ?_
  unfold b_countOf
  refine Ex.step (σ' := upd (argSt [10, 11] [.list (xs.map E.e), E.e x]) 13 (false, .int 0)) (by simp [exS_e1, exS_e2, exS_e3, exS_e4, exS_e5, exS_e6, exS_e7, exS_e8, exS_e9, exS_e10, exS_e11, exS_e12, exS_e13, evK, ev_e1, ev_e2, ev_e3, ev_e4, ev_e5, ev_e6, ev_e7, ev_e8, ev_e9, ev_e10, ev_e11, ev_e12, ev_e13, ev_e14, ev_e15, ev_e16, ev_e17, ev_e18, ev_e19, ev_e20, ev_e21, ev_e22, ev_e23, ev_e24, ev_e25, ev_e26, ev_e27, ev_e28]) ?_
  refine Ex.loopE (e := E.e) (fun pre σ => σ 13 = some (false, .int (cnt pre x)) ∧ σ 11 = some (false, E.e x)) xs (by simp [evIt_e1, evIt_e2, evIt_e3, evIt_e4, ev_e1, ev_e2, ev_e3, ev_e4, ev_e5, ev_e6, ev_e7, ev_e8, ev_e9, ev_e10, ev_e11, ev_e12, ev_e13, ev_e14, ev_e15, ev_e16, ev_e17, ev_e18, ev_e19, ev_e20, ev_e21, ev_e22, ev_e23, ev_e24, ev_e25, ev_e26, ev_e27, ev_e28, St.frozen, upd, argSt, argGo, itemsD, hl]) (by simp [upd, argSt, argGo, cnt]) ?_ ?_
  · intro pre y post σ hx ⟨h13, h11⟩
    refine ⟨_, rfl, ?_⟩
    refine Ex.ite (decide (y = x)) (by simp [ev_e1, ev_e2, ev_e3, ev_e4, ev_e5, ev_e6, ev_e7, ev_e8, ev_e9, ev_e10, ev_e11, ev_e12, ev_e13, ev_e14, ev_e15, ev_e16, ev_e17, ev_e18, ev_e19, ev_e20, ev_e21, ev_e22, ev_e23, ev_e24, ev_e25, ev_e26, ev_e27, ev_e28, St.full, upd, h11, E.kind, eqD_enc E (by omega : E.dep ≤ 49)]) (fun q => ?_) fun q => ?_
    · simp only [decide_eq_true_eq] at q
      refine Ex.step (σ' := upd (upd σ 14 (false, E.e y)) 13 (false, .int (cnt pre x + 1))) (by simp [exS_e1, exS_e2, exS_e3, exS_e4, exS_e5, exS_e6, exS_e7, exS_e8, exS_e9, exS_e10, exS_e11, exS_e12, exS_e13, upd, h13, D.num, ev_e1, ev_e2, ev_e3, ev_e4, ev_e5, ev_e6, ev_e7, ev_e8, ev_e9, ev_e10, ev_e11, ev_e12, ev_e13, ev_e14, ev_e15, ev_e16, ev_e17, ev_e18, ev_e19, ev_e20, ev_e21, ev_e22, ev_e23, ev_e24, ev_e25, ev_e26, ev_e27, ev_e28]) (.nil (.nil ⟨rfl, ?_, ?_⟩))
      · simp [upd, cnt, List.filter_append, q]
      · simp [upd, h11]
    · simp only [decide_eq_false_iff_not] at q
      refine .nil (.nil ⟨rfl, ?_, ?_⟩)
      · simp [upd, cnt, List.filter_append, q, h13]
      · simp [upd, h11]
  · intro σ ⟨h13, _⟩
    exact Ex.ret (by simp [ev_e1, ev_e2, ev_e3, ev_e4, ev_e5, ev_e6, ev_e7, ev_e8, ev_e9, ev_e10, ev_e11, ev_e12, ev_e13, ev_e14, ev_e15, ev_e16, ev_e17, ev_e18, ev_e19, ev_e20, ev_e21, ev_e22, ev_e23, ev_e24, ev_e25, ev_e26, ev_e27, ev_e28, St.full, h13]) rfl
end
end L02
end Mine
end

section
namespace Mine
open PySem PySem.W PyProof.Rows
theorem flatMap_le {α β : Type} {f : α → List β} {k : Nat} : ∀ (xs : List α), (∀ x ∈ xs, (f x).length ≤ k) → (xs.flatMap f).length ≤ xs.length * k
  | [], _ => by simp
  | x :: xs, h => by
    have h1 := h x (List.mem_cons_self ..)
    have h2 := flatMap_le xs fun y hy => h y (List.mem_cons_of_mem _ hy)
    rw [List.flatMap_cons, List.length_append, List.length_cons, Nat.succ_mul, Nat.add_comm]
    exact Nat.add_le_add h2 h1
theorem filter_tt {α : Type} (l : List α) : l.filter (fun _ => true) = l := List.filter_eq_self.mpr fun _ _ => rfl
namespace L02
/-- a text, by its letters' numbers -/
noncomputable abbrev Tx := List Nat
noncomputable abbrev encTL := encL encT
noncomputable abbrev sub (b a : Tx) : Bool := hasSub b a
noncomputable abbrev abc : List Nat := [97, 98, 99]
theorem s_empty : Str.ofString "" = ⟨([] : List Nat).toArray⟩ := by kernel_rfl
theorem s_abc : Str.ofString "abc" = ⟨[97, 98, 99].toArray⟩ := by kernel_rfl
theorem s_bac : Str.ofString "bac" = ⟨[98, 97, 99].toArray⟩ := by kernel_rfl
theorem s_aabbc : Str.ofString "aabbc" = ⟨[97, 97, 98, 98, 99].toArray⟩ := by kernel_rfl
section
variable {G : Or} {ρ : Vw}
theorem ev_empty {p : Pos} : ev tab G (.str "" p) ρ = some (encT.e []) := by rw [ev_e2, s_empty]; rfl
theorem ev_abc {p : Pos} : ev tab G (.str "abc" p) ρ = some (encT.e abc) := by rw [ev_e2, s_abc]; rfl
theorem ev_bac {p : Pos} : ev tab G (.str "bac" p) ρ = some (encT.e [98, 97, 99]) := by rw [ev_e2, s_bac]; rfl
theorem ev_aabbc {p : Pos} : ev tab G (.str "aabbc" p) ρ = some (encT.e [97, 97, 98, 98, 99]) := by rw [ev_e2, s_aabbc]; rfl
end
theorem len_T (x : Tx) : (⟨x.toArray⟩ : Str).length = x.length := by show x.toArray.size = _; simp
theorem items_T {x : Tx} (h : x.length ≤ 100) (hl : ∀ c ∈ x, c < 128) : itemsD (encT.e x) = some (x.map fun c => encT.e [c]) := by
  have h1 : (x.all (· < 128) && decide (x.length ≤ lim)) = true := by
    rw [Bool.and_eq_true, List.all_eq_true, decide_eq_true_eq]
    exact ⟨fun c hc => decide_eq_true (hl c hc), lim_small h⟩
  show (if (x.toArray.toList.all (· < 128) && decide ((⟨x.toArray⟩ : Str).length ≤ lim)) = true then _ else _) = _
  rw [len_T]
  exact if_pos h1
theorem evIt_abc {G : Or} {ρ : Vw} {p : Pos} : evIt tab G (.of (.str "abc" p)) ρ = some (abc.map fun c => encT.e [c]) := by
  simp only [evIt_e1, evIt_e2, evIt_e3, evIt_e4, ev_abc, Option.bind_some]
  exact items_T (by decide) (by decide)
theorem item_T {x : Tx} {k : Nat} (h : k < x.length) (hl : x.length ≤ 100) : itemD (encT.e x) (encN.e k) = some (encT.e [x.getD k 0]) := by
  show (if 0 ≤ (k : Int) then (if (⟨x.toArray⟩ : Str).length ≤ lim then (x.toArray.toList[(k : Int).toNat]?).map _ else none) else none) = _
  rw [if_pos (Int.natCast_nonneg k), len_T, if_pos (lim_small hl), Int.toNat_natCast, List.getD_eq_getElem?_getD, List.getElem?_eq_getElem h]
  rfl
theorem add_T {x y : Tx} (h : x.length + y.length ≤ 100) : binD .add (encT.e x) (encT.e y) = some (encT.e (x ++ y)) := by
  show (if (⟨x.toArray⟩ : Str).length + (⟨y.toArray⟩ : Str).length ≤ lim then some (D.str (⟨x.toArray⟩ ++ ⟨y.toArray⟩)) else none) = _
  rw [len_T, len_T, if_pos (lim_small h)]
  show some (D.str ⟨x.toArray ++ y.toArray⟩) = _
  rw [List.append_toArray]; rfl
theorem len_TD {x : Tx} (h : x.length ≤ 100) : lenD (encT.e x) = some (encN.e x.length) := by
  show (if (⟨x.toArray⟩ : Str).length ≤ lim then some (D.int ((⟨x.toArray⟩ : Str).length : Nat)) else none) = _
  rw [len_T, if_pos (lim_small h)]; rfl
theorem slice_T {x : Tx} {k s : Nat} (h : k + s ≤ x.length) (hl : x.length ≤ 100) : sliceD (encT.e x) (encN.e k) (encN.e (k + s)) .none = some (encT.e ((x.drop k).take s)) := by
  have h1 : 0 ≤ (k : Int) ∧ (k : Int) ≤ ((k + s : Nat) : Int) ∧ ((k + s : Nat) : Int) ≤ x.length ∧ x.length ≤ lim := ⟨Int.natCast_nonneg k, Int.ofNat_le.mpr (Nat.le_add_right k s), Int.ofNat_le.mpr h, lim_small hl⟩
  show (if 0 ≤ (k : Int) ∧ (k : Int) ≤ ((k + s : Nat) : Int) ∧ ((k + s : Nat) : Int) ≤ (⟨x.toArray⟩ : Str).length ∧ (⟨x.toArray⟩ : Str).length ≤ lim then some (D.str ⟨((x.toArray.toList.drop (k : Int).toNat).take (((k + s : Nat) : Int).toNat - (k : Int).toNat)).toArray⟩) else none) = _
  rw [len_T, if_pos h1, Int.toNat_natCast, Int.toNat_natCast, Nat.add_sub_cancel_left]; rfl
theorem rev_T {x : Tx} (hl : x.length ≤ 100) : sliceD (encT.e x) .none .none (.int (-1)) = some (encT.e x.reverse) := by
  have h1 : (-1 : Int) = -1 ∧ x.length ≤ lim := ⟨rfl, lim_small hl⟩
  show (if (-1 : Int) = -1 ∧ (⟨x.toArray⟩ : Str).length ≤ lim then some (D.str ⟨x.toArray.toList.reverse.toArray⟩) else none) = _
  rw [len_T, if_pos h1]; rfl

theorem G_sub {n : Nat} (hn : 1 ≤ n) (a b : Tx) : Gfix tab defs n 12 [encT.e a, encT.e b] = some (.bool (sub b a)) := by
  obtain ⟨n, rfl⟩ : ∃ m, n = m + 1 := ⟨n - 1, by omega⟩
  rw [G_step (i := 12) rfl]
  refine evDef_of rfl ?_
  unfold b_contains
  exact Ex.ret (ev_cmp (x := encT.e b) (y := encT.e a) (ev_var rfl) (ev_var rfl) rfl) rfl

/-! the word -/
noncomputable def letter (ns : List Int) (k s : Nat) : Nat := [97, 97, 98, 98, 99].getD (((s : Int) + drawn ns k 24 6) % 5).toNat 0
noncomputable def wordF (ns : List Int) : Tx := [letter ns 0 0, letter ns 1 2, letter ns 2 0, letter ns 3 4, letter ns 4 1, letter ns 5 3]
theorem mod5 (x : Int) : ((x % 5).toNat : Int) = x % 5 ∧ (x % 5).toNat < 5 := by omega
theorem G_word {n : Nat} (hn : 1 ≤ n) (ns : List Int) (hl : ns.length ≤ 63) : Gfix tab defs n 21 [.list (ns.map .raw)] = some (encT.e (wordF ns)) := by
  obtain ⟨n, rfl⟩ : ∃ m, n = m + 1 := ⟨n - 1, by omega⟩
  rw [G_step (i := 21) rfl]
  refine evDef_of rfl ?_
  unfold b_law_word
  refine Ex.assign ev_empty ?_
  refine Ex.loopE (e := fun x : Nat × Nat => .tuple [.int x.2, .int x.1]) (fun pre σ => σ 16 = some (false, .list (ns.map .raw)) ∧ σ 18 = some (false, encT.e (pre.map fun x => letter ns x.2 x.1))) ([0, 2, 0, 4, 1, 3].zipIdx) rfl ⟨rfl, rfl⟩ ?_ ?_
  · intro pre x post σ hx ⟨h16, h18⟩
    obtain ⟨s, k⟩ := x
    refine ⟨upd (upd σ 19 (false, .int k)) 20 (false, .int s), rfl, ?_⟩
    have hs : (sliceD (D.list (ns.map D.raw)) (D.int k) (D.int 24) (D.int 6)).bind sumD = some (.raw (drawn ns k 24 6)) := slice_sum ns k 24 6 (by decide) hl
    have hp : pre.length < 6 := pre_lt hx
    obtain ⟨m1, m2⟩ := mod5 ((s : Int) + drawn ns k 24 6)
    refine Ex.assign (d := encT.e (pre.map (fun x => letter ns x.2 x.1) ++ [letter ns k s])) (ev_bin (ev_var (frozen_of (show upd (upd σ 19 (false, .int k)) 20 (false, .int s) 18 = _ from h18))) (ev_item ev_aabbc (y := encN.e (((s : Int) + drawn ns k 24 6) % 5).toNat) ?_ (item_T m2 (by decide))) (add_T (by rw [List.length_map]; show _ + 1 ≤ 100; omega))) (.nil ⟨rfl, h16, ?_⟩)
    · refine ev_bin (x := .int ((s : Int) + drawn ns k 24 6)) (y := .int 5) (ev_bin (x := .int s) (y := .raw (drawn ns k 24 6)) rfl ?_ rfl) rfl ?_
      · simp only [ev_e1, ev_e2, ev_e3, ev_e4, ev_e5, ev_e6, ev_e7, ev_e8, ev_e9, ev_e10, ev_e11, ev_e12, ev_e13, ev_e14, ev_e15, ev_e16, ev_e17, ev_e18, ev_e19, ev_e20, ev_e21, ev_e22, ev_e23, ev_e24, ev_e25, ev_e26, ev_e27, ev_e28]
        have v16 : St.frozen (upd (upd σ 19 (false, .int k)) 20 (false, .int s)) 16 = some (.list (ns.map .raw)) := frozen_of h16
        have v19 : St.frozen (upd (upd σ 19 (false, .int k)) 20 (false, .int s)) 19 = some (.int k) := rfl
        rw [v16, v19]
        exact hs
      · show some (D.int (((s : Int) + drawn ns k 24 6) % 5)) = _
        rw [← m1]; rfl
    · simp [upd]
  · intro σ ⟨_, h18⟩
    exact Ex.ret (ev_var (full_of h18)) rfl

/-! stretches -/
noncomputable def strF (w : Tx) (s : Nat) : List Tx := (List.range (w.length - s + 1)).map fun k => (w.drop k).take s
theorem G_stretches {n : Nat} (hn : 1 ≤ n) {w : Tx} (hw : w.length ≤ 50) {s : Nat} (hs : s ≤ w.length) : Gfix tab defs n 23 [encT.e w, encN.e s] = some (.list ((strF w s).map encT.e)) := by
  obtain ⟨n, rfl⟩ : ∃ m, n = m + 1 := ⟨n - 1, by omega⟩
  rw [G_step (i := 23) rfl]
  refine evDef_of rfl ?_
  unfold b_law_stretches
  refine Ex.ret (ev_comp_all (e := encN.e) (e' := encT.e) (fun k => (w.drop k).take s) (xs := List.range (w.length - s + 1)) ?_ (by rw [List.length_range]; exact lim_small (by omega)) fun k hk => ⟨_, rfl, ?_⟩) rfl
  · refine evIt_range (ev_bin (x := encN.e (w.length - s)) (y := encN.e 1) (ev_bin (x := encN.e w.length) (y := encN.e s) ?_ (ev_var rfl) ?_) rfl (add_nat _ 1)) (by omega)
    · rw [ev_e22]
      show lenD (encT.e w) = _
      exact len_TD (by omega)
    · simp only [binD, numsD, D.num, encN, binI, Option.map_some]
      rw [Int.ofNat_sub hs]
  · have hk := List.mem_range.mp hk
    have h := slice_T (x := w) (k := k) (s := s) (by omega) (by omega)
    have v18 : upd (keepFree tab sc0 (St.full (argSt [18, 22] [encT.e w, encN.e s]))) 19 (encN.e k) 18 = some (encT.e w) := by simp [upd, kfs, St.full, argSt, argGo]
    have v22 : upd (keepFree tab sc0 (St.full (argSt [18, 22] [encT.e w, encN.e s]))) 19 (encN.e k) 22 = some (encN.e s) := by simp [upd, kfs, St.full, argSt, argGo]
    rw [ev_e18, ev_e4, v18, ev_e4, ev_bin (x := encN.e k) (y := encN.e s) (ev_var rfl) (ev_var v22) (add_nat k s), ev_e19]
    exact h

/-! letters exchanged -/
noncomputable def swp (c : Nat) : Nat := if c = 97 then 98 else if c = 98 then 97 else c
noncomputable def Abc (t : Tx) : Prop := ∀ c ∈ t, c = 97 ∨ c = 98 ∨ c = 99
theorem strs_T : ∀ ts : List Tx, strsOf (ts.map encT.e) = some (ts.map fun t => ⟨t.toArray⟩)
  | [] => rfl
  | t :: ts => by
    show (strsOf (ts.map encT.e)).map _ = _
    rw [strs_T ts]; rfl
theorem join_T {ts : List Tx} (h : (ts.map List.length).sum ≤ 100) : joinD (encT.e []) (.list (ts.map encT.e)) = some (encT.e (ts.flatMap fun t => t)) := by
  have hs : ((ts.map fun t => (⟨t.toArray⟩ : Str)).map (·.length)).sum ≤ lim := by
    have e : (ts.map fun t => (⟨t.toArray⟩ : Str)).map (·.length) = ts.map List.length := by rw [List.map_map]; exact List.map_congr_left fun t _ => len_T t
    rw [e]; exact lim_small h
  have hf : (ts.map fun t => (⟨t.toArray⟩ : Str)).flatMap (·.cps.toList) = ts.flatMap fun t => t := by rw [List.flatMap_map]
  show (match strsOf (ts.map encT.e) with
    | some (ys : List Str) => if (⟨([] : List Nat).toArray⟩ : Str).length = 0 ∧ ((ys.map fun y : Str => y.length).sum ≤ lim) then some (D.str ⟨(ys.flatMap fun y : Str => y.cps.toList).toArray⟩) else none
    | none => none) = _
  rw [strs_T]
  show (if (⟨([] : List Nat).toArray⟩ : Str).length = 0 ∧ _ then _ else _) = _
  rw [if_pos ⟨rfl, hs⟩, hf]; rfl
theorem sing_flat (f : Nat → Nat) : ∀ t : List Nat, ((t.map fun c => [f c]).flatMap fun t => t) = t.map f
  | [] => rfl
  | c :: t => by rw [List.map_cons, List.flatMap_cons, sing_flat f t]; rfl
theorem sing_len (f : Nat → Nat) : ∀ t : List Nat, ((t.map fun c => [f c]).map List.length).sum = t.length
  | [] => rfl
  | c :: t => by rw [List.map_cons, List.map_cons, List.sum_cons, sing_len f t, List.length_cons]; exact Nat.add_comm 1 _
theorem G_exchanged {n : Nat} (hn : 1 ≤ n) {t : Tx} (ht : t.length ≤ 50) (ha : Abc t) : Gfix tab defs n 37 [encT.e t] = some (encT.e (t.map swp)) := by
  obtain ⟨n, rfl⟩ : ∃ m, n = m + 1 := ⟨n - 1, by omega⟩
  rw [G_step (i := 37) rfl]
  refine evDef_of rfl ?_
  unfold b_law_exchanged
  have hc := ev_comp_all (tab := tab) (G := Gfix tab defs n) (e := fun c : Nat => encT.e [c]) (e' := encT.e) (elt := .item (.str "bac" ⟨48, 20, 48, 25⟩) (.index (.str "abc" ⟨48, 26, 48, 31⟩) (.var 28 ⟨48, 38, 48, 39⟩) ⟨48, 26, 48, 37⟩ ⟨48, 26, 48, 40⟩) ⟨48, 20, 48, 41⟩) (t := .one 28 ⟨48, 46, 48, 47⟩) (it := .of (.var 26 ⟨48, 51, 48, 55⟩)) (sc := sc8) (p := ⟨48, 19, 48, 56⟩)
    (ρ := St.full (argSt [26] [encT.e t])) (fun c => [swp c]) (xs := t) (by
      rw [evIt_e4, ev_e4]
      exact items_T (by omega) fun c hc => by rcases ha c hc with rfl | rfl | rfl <;> decide) (lim_small (by omega)) fun c hc => ⟨_, rfl, by
        rw [ev_e17, ev_bac, ev_e26, ev_abc, ev_e4]
        rcases ha c hc with rfl | rfl | rfl <;> kernel_rfl⟩
  refine Ex.ret (d := encT.e (t.map swp)) ?_ rfl
  rw [ev_e25, ev_empty, hc]
  show joinD (encT.e []) (.list ((t.map fun c => [swp c]).map encT.e)) = _
  rw [join_T (by rw [sing_len]; omega), sing_flat]
end L02
end Mine
end

section
namespace Mine
open PySem PySem.W PyProof.Rows
theorem Ex.ownComp {tab : Nat → Str} {G : Or} {x : Nat} {elt : C} {t : Tgt} {it : It} {ifs : Cs} {g : Gs} {sc : Scope} {pc px p : Pos} {r : Ss} {σ : St} {es : List D} {Q : St → Fl → Prop} (h : ev tab G (.comp elt (.gen t it ifs g) sc pc) σ.frozen = some (.list es)) (q : Ex tab G r (upd σ x (true, .list es)) Q) : Ex tab G (.cons (.ownComp x elt t it ifs g sc pc px p) r) σ Q :=
  Ex.step (by rw [exS_e12, h]; rfl) q
namespace L02
theorem beq_tt (b : Bool) : (b == true) = b := by cases b <;> rfl
theorem beq_ff (b : Bool) : (b == false) = !b := by cases b <;> rfl
noncomputable abbrev eL : Nat → D := fun c => encT.e [c]

/-! the least missing words -/
noncomputable def aheadF (w part : Tx) : List Nat := abc.filter fun c => sub ([c] ++ part) w
noncomputable def behindF (w part : Tx) : List Nat := abc.filter fun c => sub (part ++ [c]) w
noncomputable def textsF (w part : Tx) : List Tx := (aheadF w part).flatMap fun x => (behindF w part).map fun y => [x] ++ part ++ [y]
noncomputable def newF (w part : Tx) : List Tx := (textsF w part).filter fun t => !sub t w
noncomputable def firstF (w : Tx) : List Tx := (abc.filter fun c => !sub [c] w).map fun c => [c]
noncomputable def sizeF (w : Tx) (s : Nat) : List Tx := (dedup (strF w s)).flatMap (newF w)
noncomputable def missF (w : Tx) : List Tx := firstF w ++ (List.range w.length).flatMap (sizeF w)
theorem ahead_le (w part : Tx) : (aheadF w part).length ≤ 3 := List.length_filter_le ..
theorem behind_le (w part : Tx) : (behindF w part).length ≤ 3 := List.length_filter_le ..
theorem texts_le (w part : Tx) : (textsF w part).length ≤ 9 := Nat.le_trans (flatMap_le (k := 3) _ fun x _ => by rw [List.length_map]; exact behind_le w part) (Nat.mul_le_mul_right 3 (ahead_le w part))
theorem new_le (w part : Tx) : (newF w part).length ≤ 9 := Nat.le_trans (List.length_filter_le ..) (texts_le w part)
theorem str_len (w : Tx) (s : Nat) : (strF w s).length = w.length - s + 1 := by unfold strF; rw [List.length_map, List.length_range]
theorem size_le (w : Tx) (s : Nat) : (sizeF w s).length ≤ (w.length + 1) * 9 := Nat.le_trans (flatMap_le (k := 9) _ fun p _ => new_le w p) (Nat.mul_le_mul_right 9 (Nat.le_trans (length_dedup _) (by rw [str_len]; omega)))
theorem first_le (w : Tx) : (firstF w).length ≤ 3 := by unfold firstF; rw [List.length_map]; exact List.length_filter_le ..
theorem texts_eq (w part : Tx) : ((aheadF w part).filter fun _ => true).flatMap (fun x => ((behindF w part).filter fun _ => true).map fun y => [x] ++ part ++ [y]) = textsF w part := by
  rw [filter_tt, filter_tt]; rfl

theorem G_missing {n : Nat} (hn : 2 ≤ n) {w : Tx} (hw : w.length ≤ 10) : Gfix tab defs n 32 [encT.e w] = some (.list ((missF w).map encT.e)) := by
  obtain ⟨n, rfl⟩ : ∃ m, n = m + 1 := ⟨n - 1, by omega⟩
  rw [G_step (i := 32) rfl]
  refine evDef_of rfl ?_
  unfold b_law_missing
  have hlw : ∀ {ρ : Vw} (p q r : Pos), ρ 18 = some (encT.e w) → ev tab (Gfix tab defs n) (.len (.var 18 p) q r) ρ = some (encN.e w.length) := fun p q r h => by
    rw [ev_e22, ev_e4, h]; exact len_TD (by omega)
  refine Ex.ownComp (es := (firstF w).map encT.e) ?_ ?_
  · refine ev_comp (e := eL) (e' := encT.e) (fun c => !sub [c] w) (fun c => [c]) (xs := abc) evIt_abc (lim_small (by decide)) fun c hc => ⟨_, rfl, evIfs_one ?_, fun _ => rfl⟩
    refine Eq.trans (ev_cmp (ev_call2 (x := encT.e w) (y := encT.e [c]) ?_ (ev_var rfl) (G_sub (by omega) w [c])) (y := .bool true) rfl (isnot_bool _ _)) (by rw [beq_tt])
    simp [ev_e1, ev_e2, ev_e3, ev_e4, ev_e5, ev_e6, ev_e7, ev_e8, ev_e9, ev_e10, ev_e11, ev_e12, ev_e13, ev_e14, ev_e15, ev_e16, ev_e17, ev_e18, ev_e19, ev_e20, ev_e21, ev_e22, ev_e23, ev_e24, ev_e25, ev_e26, ev_e27, ev_e28, evs_e1, evs_e2, evIt_e1, evIt_e2, evIt_e3, evIt_e4, evIfs_e1, evIfs_e2, bindT, bindAll, bindS, bindS.go, St.frozen, St.full, upd, argSt, argGo, kfs, boolOf, binD, binI, addD, numsD, D.num, cmpD, itemD, mkList_small, itemsD_small, Option.bind_some, Option.map_some]
  refine Ex.loopE (e := encN.e) (fun pre σ => σ 18 = some (false, encT.e w) ∧ σ 24 = some (true, .list ((firstF w ++ pre.flatMap (sizeF w)).map encT.e))) (List.range w.length) (evIt_range (hlw _ _ _ rfl) (by omega)) ⟨rfl, by simp [upd]⟩ ?_ ?_
  · intro pre s post σ hx ⟨h18, h24⟩
    refine ⟨_, rfl, ?_⟩
    have hs : s < w.length := List.mem_range.mp (mem_mid hx)
    have hp : pre.length < w.length := by have := pre_lt hx; rwa [List.length_range] at this
    have hpl : (pre.flatMap (sizeF w)).length ≤ 990 := by
      refine Nat.le_trans (flatMap_le (k := (w.length + 1) * 9) _ fun s _ => size_le w s) ?_
      have h1 : (w.length + 1) * 9 ≤ 99 := by omega
      exact Nat.le_trans (Nat.mul_le_mul (show pre.length ≤ 10 by omega) h1) (by decide)
    have hsl : (strF w s).length ≤ lim := by rw [str_len]; exact lim_small (by omega)
    have hdl : (dedup (strF w s)).length ≤ 11 := Nat.le_trans (length_dedup _) (by rw [str_len]; omega)
    refine Ex.loopE (e := encT.e) (fun pre₂ σ => σ 18 = some (false, encT.e w) ∧ σ 24 = some (true, .list ((firstF w ++ pre.flatMap (sizeF w) ++ pre₂.flatMap (newF w)).map encT.e))) (dedup (strF w s)) (evIt_of (ev_call1 (ev_call2 (ev_var (frozen_of (show upd σ 22 (false, encN.e s) 18 = _ from h18))) (y := encN.e s) (ev_var rfl) (G_stretches (by omega) (by omega) (by omega))) (G_dedup encT (by omega) (by decide) _ hsl)) (by rw [List.length_map]; exact lim_small (by omega))) ⟨h18, by simp [upd, h24]⟩ ?_ ?_
    · intro pre₂ part post₂ σ hx₂ ⟨h18, h24⟩
      refine ⟨_, rfl, ?_⟩
      have hp₂ : pre₂.length < 11 := Nat.lt_of_lt_of_le (pre_lt hx₂) hdl
      have hpart : part.length ≤ 20 := by
        have := mem_dedup.mp (mem_mid hx₂)
        obtain ⟨k, _, rfl⟩ := List.mem_map.mp this
        rw [List.length_take, List.length_drop]; omega
      have s18 : upd σ 25 (false, encT.e part) 18 = some (false, encT.e w) := h18
      have s24 : upd σ 25 (false, encT.e part) 24 = _ := h24
      have s25 : upd σ 25 (false, encT.e part) 25 = some (false, encT.e part) := rfl
      generalize upd σ 25 (false, encT.e part) = S at s18 s24 s25 ⊢
      refine Ex.assign (d := .list ((aheadF w part).map eL)) ?_ ?_
      · have h := ev_comp (tab := tab) (G := Gfix tab defs n) (e := eL) (e' := eL) (elt := .var 28 ⟨39, 21, 39, 22⟩) (t := .one 28 ⟨39, 27, 39, 28⟩) (it := .of (.str "abc" ⟨39, 32, 39, 37⟩)) (ifs := .cons (.cmp .is (.call 12 (.cons (.var 18 ⟨39, 50, 39, 54⟩) (.cons (.bin .add (.var 28 ⟨39, 56, 39, 57⟩) (.var 25 ⟨39, 60, 39, 64⟩) ⟨39, 56, 39, 64⟩) .nil)) ⟨39, 41, 39, 49⟩ ⟨39, 41, 39, 65⟩) (.bool true ⟨39, 69, 39, 73⟩) ⟨39, 41, 39, 73⟩) .nil) (sc := sc3) (p := ⟨39, 20, 39, 74⟩)
          (ρ := St.frozen S) (fun c => sub ([c] ++ part) w) (fun c => c) (xs := abc) evIt_abc (lim_small (by decide)) fun c hc => by
            have v18 : upd (keepFree tab sc3 (St.frozen S)) 28 (eL c) 18 = some (encT.e w) := by simp [upd, kfs, frozen_of s18]
            have v25 : upd (keepFree tab sc3 (St.frozen S)) 28 (eL c) 25 = some (encT.e part) := by simp [upd, kfs, frozen_of s25]
            exact ⟨_, rfl, evIfs_one (Eq.trans (ev_cmp (ev_call2 (ev_var v18) (ev_bin (x := encT.e [c]) (ev_var rfl) (ev_var v25) (add_T (by rw [List.length_singleton]; omega))) (G_sub (by omega) w ([c] ++ part))) (y := .bool true) rfl (is_bool _ _)) (by rw [beq_tt])), fun _ => rfl⟩
        rw [List.map_id'] at h
        exact h
      refine Ex.assign (d := .list ((behindF w part).map eL)) ?_ ?_
      · have h := ev_comp (tab := tab) (G := Gfix tab defs n) (e := eL) (e' := eL) (elt := .var 28 ⟨40, 22, 40, 23⟩) (t := .one 28 ⟨40, 28, 40, 29⟩) (it := .of (.str "abc" ⟨40, 33, 40, 38⟩)) (ifs := .cons (.cmp .is (.call 12 (.cons (.var 18 ⟨40, 51, 40, 55⟩) (.cons (.bin .add (.var 25 ⟨40, 57, 40, 61⟩) (.var 28 ⟨40, 64, 40, 65⟩) ⟨40, 57, 40, 65⟩) .nil)) ⟨40, 42, 40, 50⟩ ⟨40, 42, 40, 66⟩) (.bool true ⟨40, 70, 40, 74⟩) ⟨40, 42, 40, 74⟩) .nil) (sc := sc3) (p := ⟨40, 21, 40, 75⟩)
          (ρ := St.frozen (upd S 31 (false, .list ((aheadF w part).map eL)))) (fun c => sub (part ++ [c]) w) (fun c => c) (xs := abc) evIt_abc (lim_small (by decide)) fun c hc => by
            have v18 : upd (keepFree tab sc3 (St.frozen (upd S 31 (false, .list ((aheadF w part).map eL))))) 28 (eL c) 18 = some (encT.e w) := by simp [upd, kfs]; exact frozen_of (show upd S 31 _ 18 = _ from s18)
            have v25 : upd (keepFree tab sc3 (St.frozen (upd S 31 (false, .list ((aheadF w part).map eL))))) 28 (eL c) 25 = some (encT.e part) := by simp [upd, kfs]; exact frozen_of (show upd S 31 _ 25 = _ from s25)
            exact ⟨_, rfl, evIfs_one (Eq.trans (ev_cmp (ev_call2 (ev_var v18) (ev_bin (y := encT.e [c]) (ev_var v25) (ev_var rfl) (add_T (by rw [List.length_singleton]; omega))) (G_sub (by omega) w (part ++ [c]))) (y := .bool true) rfl (is_bool _ _)) (by rw [beq_tt])), fun _ => rfl⟩
        rw [List.map_id'] at h
        exact h
      have t18 : upd (upd S 31 (false, .list ((aheadF w part).map eL))) 30 (false, .list ((behindF w part).map eL)) 18 = some (false, encT.e w) := s18
      have t24 : upd (upd S 31 (false, .list ((aheadF w part).map eL))) 30 (false, .list ((behindF w part).map eL)) 24 = _ := s24
      have t25 : upd (upd S 31 (false, .list ((aheadF w part).map eL))) 30 (false, .list ((behindF w part).map eL)) 25 = some (false, encT.e part) := s25
      have t31 : upd (upd S 31 (false, .list ((aheadF w part).map eL))) 30 (false, .list ((behindF w part).map eL)) 31 = some (false, .list ((aheadF w part).map eL)) := rfl
      have t30 : upd (upd S 31 (false, .list ((aheadF w part).map eL))) 30 (false, .list ((behindF w part).map eL)) 30 = some (false, .list ((behindF w part).map eL)) := rfl
      generalize upd (upd S 31 (false, .list ((aheadF w part).map eL))) 30 (false, .list ((behindF w part).map eL)) = T at t18 t24 t25 t31 t30 ⊢
      refine Ex.assign (d := .list ((textsF w part).map encT.e)) ?_ ?_
      · rw [← texts_eq]
        refine ev_comp2 (e := eL) (e₁ := eL) (e' := encT.e) (fun _ => true) (fun _ => behindF w part) (fun _ _ => true) (fun x y => [x] ++ part ++ [y]) (xs := aheadF w part) (evIt_of (ev_var (frozen_of t31)) (by rw [List.length_map]; exact lim_small (Nat.le_trans (ahead_le w part) (by decide)))) (by rw [texts_eq]; exact lim_small (Nat.le_trans (texts_le w part) (by decide))) fun x hx => ⟨_, rfl, rfl, fun _ => ⟨evIt_of (ev_var ?_) (by rw [List.length_map]; exact lim_small (Nat.le_trans (behind_le w part) (by decide))), fun y hy => ⟨_, rfl, rfl, fun _ => ?_⟩⟩⟩
        · simp [upd, kfs]; exact frozen_of t30
        · refine ev_bin (x := encT.e ([x] ++ part)) (y := encT.e [y]) (ev_bin (x := encT.e [x]) (y := encT.e part) (ev_var rfl) (ev_var ?_) (add_T (by rw [List.length_singleton]; omega))) (ev_var rfl) (add_T (by rw [List.length_append, List.length_singleton, List.length_singleton]; omega))
          simp [upd, kfs]; exact frozen_of t25
      have hnew := ev_comp (tab := tab) (G := Gfix tab defs n) (e := encT.e) (e' := encT.e) (elt := .var 26 ⟨42, 28, 42, 32⟩) (t := .one 26 ⟨42, 37, 42, 41⟩) (it := .of (.var 27 ⟨42, 45, 42, 50⟩)) (ifs := .cons (.cmp .isnot (.call 12 (.cons (.var 18 ⟨42, 63, 42, 67⟩) (.cons (.var 26 ⟨42, 69, 42, 73⟩) .nil)) ⟨42, 54, 42, 62⟩ ⟨42, 54, 42, 74⟩) (.bool true ⟨42, 82, 42, 86⟩) ⟨42, 54, 42, 86⟩) .nil) (sc := sc1) (p := ⟨42, 27, 42, 87⟩)
        (ρ := St.frozen (upd T 27 (false, .list ((textsF w part).map encT.e)))) (fun t => !sub t w) (fun t => t) (xs := textsF w part) (evIt_of (ev_var rfl) (by rw [List.length_map]; exact lim_small (Nat.le_trans (texts_le w part) (by decide)))) (lim_small (Nat.le_trans (texts_le w part) (by decide))) fun t ht => by
          have v18 : upd (keepFree tab sc1 (St.frozen (upd T 27 (false, .list ((textsF w part).map encT.e))))) 26 (encT.e t) 18 = some (encT.e w) := by simp [upd, kfs]; exact frozen_of (show upd T 27 _ 18 = _ from t18)
          exact ⟨_, rfl, evIfs_one (Eq.trans (ev_cmp (ev_call2 (ev_var v18) (y := encT.e t) (ev_var rfl) (G_sub (by omega) w t)) (y := .bool true) rfl (isnot_bool _ _)) (by rw [beq_tt])), fun _ => rfl⟩
      rw [List.map_id'] at hnew
      refine Ex.extend (es := (newF w part).map encT.e) hnew (show upd T 27 _ 24 = _ from t24) ?_ (.nil ⟨rfl, t18, ?_⟩)
      · have h1 := first_le w
        have h2 := new_le w part
        have h3 : (pre₂.flatMap (newF w)).length ≤ 99 := Nat.le_trans (flatMap_le (k := 9) _ fun p _ => new_le w p) (by omega)
        simp only [List.length_map, List.length_append]
        exact Nat.le_trans (m := 1200) (by omega) (by decide)
      · simp [upd, List.flatMap_append]
    · intro σ ⟨h18, h24⟩
      refine .nil ⟨rfl, h18, ?_⟩
      rw [h24]; simp [List.flatMap_append, sizeF]
  · intro σ ⟨_, h24⟩
    exact Ex.ret (ev_var (full_of h24)) rfl

/-! the texts that are grown -/
noncomputable def longerF (level : List Tx) : List Tx := level.flatMap fun part => abc.map fun x => part ++ [x]
noncomputable def grownF (level missing : List Tx) : List Tx := (longerF level).filter fun t => decide ((missing.filter fun one => sub one t) = [])
theorem G_grown {n : Nat} (hn : 2 ≤ n) {level missing : List Tx} (h1 : level.length ≤ 30) (h2 : ∀ t ∈ level, t.length ≤ 20) (h3 : missing.length ≤ lim) : Gfix tab defs n 36 [.list (level.map encT.e), .list (missing.map encT.e)] = some (.list ((grownF level missing).map encT.e)) := by
  obtain ⟨n, rfl⟩ : ∃ m, n = m + 1 := ⟨n - 1, by omega⟩
  rw [G_step (i := 36) rfl]
  refine evDef_of rfl ?_
  unfold b_law_grown
  have clean : ((level.filter fun _ => true).flatMap fun part => (abc.filter fun _ => true).map fun x => part ++ [x]) = longerF level := by rw [filter_tt, filter_tt]; rfl
  have hl : (longerF level).length ≤ lim := Nat.le_trans (flatMap_le (k := 3) _ fun p _ => by rw [List.length_map]; exact Nat.le_refl _) (lim_small (by omega))
  refine Ex.assign (d := .list ((longerF level).map encT.e)) ?_ ?_
  · rw [← clean]
    refine ev_comp2 (e := encT.e) (e₁ := eL) (e' := encT.e) (fun _ => true) (fun _ => abc) (fun _ _ => true) (fun part x => part ++ [x]) (xs := level) (evIt_of (ev_var rfl) (by rw [List.length_map]; exact lim_small (by omega))) (by rw [clean]; exact hl) fun part hp => ⟨_, rfl, rfl, fun _ => ⟨evIt_abc, fun x hx => ⟨_, rfl, rfl, fun _ => ?_⟩⟩⟩
    exact ev_bin (x := encT.e part) (y := encT.e [x]) (ev_var rfl) (ev_var rfl) (add_T (by rw [List.length_singleton]; have := h2 part hp; omega))
  · have h := ev_comp (tab := tab) (G := Gfix tab defs n) (e := encT.e) (e' := encT.e) (elt := .var 25 ⟨46, 12, 46, 16⟩) (t := .one 25 ⟨46, 21, 46, 25⟩) (it := .of (.var 34 ⟨46, 29, 46, 35⟩)) (ifs := .cons (.cmp .eq (.comp (.var 35 ⟨46, 40, 46, 43⟩) (.gen (.one 35 ⟨46, 48, 46, 51⟩) (.of (.var 24 ⟨46, 55, 46, 62⟩)) (.cons (.cmp .isnot (.call 12 (.cons (.var 25 ⟨46, 75, 46, 79⟩) (.cons (.var 35 ⟨46, 81, 46, 84⟩) .nil)) ⟨46, 66, 46, 74⟩ ⟨46, 66, 46, 85⟩) (.bool false ⟨46, 93, 46, 98⟩) ⟨46, 66, 46, 98⟩) .nil) .done) sc5 ⟨46, 39, 46, 99⟩) (.list .nil ⟨46, 103, 46, 105⟩) ⟨46, 39, 46, 105⟩) .nil) (sc := sc6) (p := ⟨46, 11, 46, 106⟩)
      (ρ := St.full (upd (argSt [33, 24] [.list (level.map encT.e), .list (missing.map encT.e)]) 34 (false, .list ((longerF level).map encT.e)))) (fun t => decide ((missing.filter fun one => sub one t) = [])) (fun t => t) (xs := longerF level) (evIt_of (ev_var rfl) (by rw [List.length_map]; exact hl)) hl fun t ht => by
        have hi := ev_comp (tab := tab) (G := Gfix tab defs n) (e := encT.e) (e' := encT.e) (elt := .var 35 ⟨46, 40, 46, 43⟩) (t := .one 35 ⟨46, 48, 46, 51⟩) (it := .of (.var 24 ⟨46, 55, 46, 62⟩)) (ifs := .cons (.cmp .isnot (.call 12 (.cons (.var 25 ⟨46, 75, 46, 79⟩) (.cons (.var 35 ⟨46, 81, 46, 84⟩) .nil)) ⟨46, 66, 46, 74⟩ ⟨46, 66, 46, 85⟩) (.bool false ⟨46, 93, 46, 98⟩) ⟨46, 66, 46, 98⟩) .nil) (sc := sc5) (p := ⟨46, 39, 46, 99⟩)
          (ρ := upd (keepFree tab sc6 (St.full (upd (argSt [33, 24] [.list (level.map encT.e), .list (missing.map encT.e)]) 34 (false, .list ((longerF level).map encT.e))))) 25 (encT.e t)) (fun one => sub one t) (fun one => one) (xs := missing) (evIt_of (ev_var (by simp [upd, kfs, St.full, argSt, argGo])) (by rw [List.length_map]; exact h3)) h3 fun one ho => by
            refine ⟨_, rfl, evIfs_one (Eq.trans (ev_cmp (ev_call2 (x := encT.e t) (ev_var (by simp [upd, kfs])) (y := encT.e one) (ev_var rfl) (G_sub (by omega) t one)) (y := .bool false) rfl (isnot_bool _ _)) ?_), fun _ => rfl⟩
            rw [beq_ff, Bool.not_not]
        rw [List.map_id'] at hi
        exact ⟨_, rfl, evIfs_one (Eq.trans (ev_cmp hi (y := .list []) rfl (eq_nil encT (by decide) _)) (congrArg (fun b => some (D.bool b)) (decide_eq_decide.mpr Iff.rfl))), fun _ => rfl⟩
    rw [List.map_id'] at h
    exact Ex.ret h rfl
end L02
end Mine
end

section
namespace Mine
open PySem PySem.W PyProof.Rows
theorem enum_map {α : Type} (e : α → D) : ∀ (xs : List α) (i : Nat), enumL (i : Int) (xs.map e) = (xs.zipIdx i).map fun x => .tuple [.int x.2, e x.1]
  | [], _ => rfl
  | x :: xs, i => by
    have := enum_map e xs (i + 1)
    rw [List.map_cons, enumL, List.zipIdx_cons, List.map_cons, ← this]; rfl
theorem evIt_enum {tab : Nat → Str} {G : Or} {a : C} {pf p : Pos} {ρ : Vw} {α : Type} {e : α → D} {xs : List α} (h : ev tab G a ρ = some (.list (xs.map e))) (hl : xs.length ≤ lim) : evIt tab G (.enum a pf p) ρ = some (xs.zipIdx.map fun x => .tuple [.int x.2, e x.1]) := by
  simp only [evIt_e1, evIt_e2, evIt_e3, evIt_e4, h, Option.bind_some, enumD, List.length_map, if_pos hl]
  exact congrArg some (enum_map e xs 0)
theorem evIt_range2 {tab : Nat → Str} {G : Or} {a b : C} {pf p : Pos} {ρ : Vw} {m n : Nat} (ha : ev tab G a ρ = some (encN.e m)) (hb : ev tab G b ρ = some (encN.e n)) (hm : m ≤ 100) (hn : n ≤ 100) : evIt tab G (.range2 a b pf p) ρ = some (((List.range (n - m)).map fun k => m + k).map encN.e) := by
  have h2 : (-lim : Int) ≤ m ∧ (m : Int) ≤ lim ∧ (-lim : Int) ≤ n ∧ (n : Int) ≤ lim := by
    have : (lim : Int) = 1000000 := rfl
    omega
  have e : ((n : Int) - m).toNat = n - m := by omega
  simp only [evIt_e1, evIt_e2, evIt_e3, evIt_e4, ha, hb, Option.bind_some, range2D, D.num, encN, range2I, if_pos h2, rangeL_eq, e, List.map_map]
  congr 1
theorem ev_slice_to {tab : Nat → Str} {G : Or} {a h : C} {ps p : Pos} {ρ : Vw} {α : Type} {e : α → D} {xs : List α} {k : Nat} (ha : ev tab G a ρ = some (.list (xs.map e))) (hh : ev tab G h ρ = some (encN.e k)) (hl : xs.length ≤ lim) :
    ev tab G (.slice a .nothing h .nothing ps p) ρ = some (.list ((xs.take k).map e)) := by
  simp only [ev_e1, ev_e2, ev_e3, ev_e4, ev_e5, ev_e6, ev_e7, ev_e8, ev_e9, ev_e10, ev_e11, ev_e12, ev_e13, ev_e14, ev_e15, ev_e16, ev_e17, ev_e18, ev_e19, ev_e20, ev_e21, ev_e22, ev_e23, ev_e24, ev_e25, ev_e26, ev_e27, ev_e28, ha, hh, Option.bind_some, sliceD, D.part, encN, sliceL, List.length_map, if_pos hl, if_pos (Int.natCast_nonneg k), Int.toNat_natCast, Option.map_some, List.map_take]
theorem ev_slice_from {tab : Nat → Str} {G : Or} {a h : C} {ps p : Pos} {ρ : Vw} {α : Type} {e : α → D} {xs : List α} {k : Nat} (ha : ev tab G a ρ = some (.list (xs.map e))) (hh : ev tab G h ρ = some (encN.e k)) (hl : xs.length ≤ lim) :
    ev tab G (.slice a h .nothing .nothing ps p) ρ = some (.list ((xs.drop k).map e)) := by
  simp only [ev_e1, ev_e2, ev_e3, ev_e4, ev_e5, ev_e6, ev_e7, ev_e8, ev_e9, ev_e10, ev_e11, ev_e12, ev_e13, ev_e14, ev_e15, ev_e16, ev_e17, ev_e18, ev_e19, ev_e20, ev_e21, ev_e22, ev_e23, ev_e24, ev_e25, ev_e26, ev_e27, ev_e28, ha, hh, Option.bind_some, sliceD, D.part, encN, sliceL, List.length_map, if_pos hl, if_pos (Int.natCast_nonneg k), Int.toNat_natCast, Option.map_some, List.map_drop]
theorem intsOf_nat : ∀ ns : List Nat, intsOf (ns.map encN.e) = some (ns.map fun n : Nat => (n : Int))
  | [] => rfl
  | n :: ns => by
    have := intsOf_nat ns
    simp only [encN] at this
    simp [encN, intsOf, D.num, this]
theorem sum_nat : ∀ ns : List Nat, (ns.map fun n : Nat => (n : Int)).sum = ((ns.sum : Nat) : Int)
  | [] => rfl
  | n :: ns => by simp [sum_nat ns]
namespace L02
noncomputable def levelN (M : List Tx) : Nat → List Tx
  | 0 => [[]]
  | n + 1 => grownF (levelN M n) M
noncomputable def unlikeT (str : List Tx) : List Tx := ((str.zipIdx).filter fun x => !decide (x.1 ∈ str.take x.2)).map fun x => x.1
noncomputable def changesF (w : Tx) (M : List Tx) : List (List Tx × Tx) := [(M.map List.reverse, w.reverse), (M.map (List.map swp), w.map swp), ((M.map List.reverse).map (List.map swp), w.reverse.map swp)]
noncomputable def eCh : List Tx × Tx → D := fun x => .tuple [.list (x.1.map encT.e), encT.e x.2]
theorem ev_rev {G : Or} {i : Nat} {p1 p2 p3 p4 p5 : Pos} {ρ : Vw} {x : Tx} (h : ρ i = some (encT.e x)) (hl : x.length ≤ 100) : ev tab G (.slice (.var i p1) .nothing .nothing (.neg (.int 1 p2) p3) p4 p5) ρ = some (encT.e x.reverse) := by
  rw [ev_e18, ev_e4, h]
  exact rev_T hl
theorem miss_le {w : Tx} (hw : w.length ≤ 10) : (missF w).length ≤ lim := by
  unfold missF
  rw [List.length_append]
  have h1 := first_le w
  have h2 : ((List.range w.length).flatMap (sizeF w)).length ≤ 990 := by
    refine Nat.le_trans (flatMap_le (k := (w.length + 1) * 9) _ fun s _ => size_le w s) ?_
    have h1 : (w.length + 1) * 9 ≤ 99 := by omega
    rw [List.length_range]
    exact Nat.le_trans (Nat.mul_le_mul hw h1) (by decide)
  exact Nat.le_trans (m := 1000) (by omega) (by decide)

theorem law_walk (ns : List Int) (hl : ns.length ≤ 63) (w : Tx) (hwd : w = wordF ns) (M : List Tx) (hM : M = missF w) (hA : Abc w)
    (f1 : ∀ one ∈ M, cnt (M.map fun o => sub o one) true = 1) (f2 : same (M.drop 1) M = false ∧ same M (M.drop 1) = false)
    (hb : ∀ n, n ≤ 6 → (levelN M n).length ≤ 30 ∧ ∀ t ∈ levelN M n, t.length ≤ 20)
    (fa : ∀ n, n ≤ 6 → same (levelN M n) (strF w n) = true) (fb : ∀ n, n ≤ 6 → (levelN M n).length = (unlikeT (strF w n)).length)
    (fc : ∀ n, n ≤ 6 → ((levelN M n).map (cnt (strF w n))).sum = (strF w n).length) (fd : ∀ n, n ≤ 6 → dedup (strF w n) = unlikeT (strF w n))
    (f4 : grownF (levelN M 6) M = []) (hMA : ∀ t ∈ M, Abc t ∧ t.length ≤ 20) (f5 : ∀ x ∈ changesF w M, same x.1 M = decide (x.2 = w)) :
    evDef tab (Gfix tab defs 10) [16] b_law [.list (ns.map .raw)] = some (.bool true) := by
  have hw6 : w.length = 6 := by rw [hwd]; rfl
  have hMl : M.length ≤ lim := by rw [hM]; exact miss_le (by omega)
  refine evDef_of rfl ?_
  unfold b_law
  refine Ex.assign (ev_call1 (x := .list (ns.map .raw)) rfl (G_word (by decide) ns hl)) ?_
  rw [← hwd]
  refine Ex.assign (d := .list (M.map encT.e)) (ev_call1 (x := encT.e w) rfl (by rw [hM]; exact G_missing (by decide) (by omega))) ?_
  suffices key : ∀ σ : St, σ 18 = some (false, encT.e w) → σ 24 = some (false, .list (M.map encT.e)) → Ex tab (Gfix tab defs 10) _ σ _ from key _ rfl rfl
  intro σ s18 s24
  refine Ex.loopE (e := encT.e) (fun _ σ => σ 18 = some (false, encT.e w) ∧ σ 24 = some (false, .list (M.map encT.e))) M (evIt_of (ev_var (frozen_of s24)) (by rw [List.length_map]; exact hMl)) ⟨s18, s24⟩ ?_ ?_
  · intro pre one post σ hx ⟨s18, s24⟩
    refine ⟨_, rfl, ?_⟩
    have t24 : upd σ 35 (false, encT.e one) 24 = some (false, .list (M.map encT.e)) := s24
    have hc := ev_comp_all (tab := tab) (G := Gfix tab defs 10) (e := encT.e) (e' := encB.e) (elt := .call 12 (.cons (.var 35 ⟨53, 29, 53, 32⟩) (.cons (.var 45 ⟨53, 34, 53, 39⟩) .nil)) ⟨53, 20, 53, 28⟩ ⟨53, 20, 53, 40⟩) (t := .one 45 ⟨53, 45, 53, 50⟩) (it := .of (.var 24 ⟨53, 54, 53, 61⟩)) (sc := sc13) (p := ⟨53, 19, 53, 62⟩)
      (ρ := St.full (upd σ 35 (false, encT.e one))) (fun o => sub o one) (xs := M) (evIt_of (ev_var (full_of t24)) (by rw [List.length_map]; exact hMl)) hMl fun o ho => ⟨_, rfl, ev_call2 (x := encT.e one) (ev_var (by simp [upd, kfs, St.full])) (y := encT.e o) (ev_var rfl) (G_sub (by decide) one o)⟩
    refine Ex.iteF (Eq.trans (ev_cmp (ev_call2 hc (y := encB.e true) rfl (G_countOf encB (by decide) (by decide) _ true (by rw [List.length_map]; exact hMl))) (y := encN.e 1) rfl (cmp_ne encN (by decide) _ 1)) ?_) (.nil ⟨rfl, s18, s24⟩)
    rw [f1 one (mem_mid hx)]; rfl
  intro σ ⟨s18, s24⟩
  refine Ex.assign (ev_slice_from (e := encT.e) (k := 1) (ev_var (frozen_of s24)) rfl hMl) ?_
  have hdl : (M.drop 1).length ≤ lim := by rw [List.length_drop]; omega
  have t24 : upd σ 44 (false, .list ((M.drop 1).map encT.e)) 24 = some (false, .list (M.map encT.e)) := s24
  have t44 : upd σ 44 (false, .list ((M.drop 1).map encT.e)) 44 = some (false, .list ((M.drop 1).map encT.e)) := rfl
  have t18 : upd σ 44 (false, .list ((M.drop 1).map encT.e)) 18 = some (false, encT.e w) := s18
  generalize upd σ 44 (false, .list ((M.drop 1).map encT.e)) = σ at t24 t44 t18 ⊢
  refine Ex.iteF (Eq.trans (ev_or2 (ev_cmp (ev_call2 (ev_var (full_of t44)) (ev_var (full_of t24)) (G_compare encT (by decide) (by decide) _ _ hdl hMl)) (y := .bool false) rfl (isnot_bool _ _)) fun _ => ev_cmp (ev_call2 (ev_var (full_of t24)) (ev_var (full_of t44)) (G_compare encT (by decide) (by decide) _ _ hMl hdl)) (y := .bool false) rfl (isnot_bool _ _)) (by rw [f2.1, f2.2]; rfl)) ?_
  refine Ex.assign (d := .list ((levelN M 0).map encT.e)) (by rw [ev_e5, evs_e2, ev_empty]; rfl) ?_
  have hlw : ∀ {ρ : Vw} (p q r : Pos), ρ 18 = some (encT.e w) → ev tab (Gfix tab defs 10) (.len (.var 18 p) q r) ρ = some (encN.e 6) := fun p q r h => by
    rw [ev_e22, ev_e4, h, ← hw6]; exact len_TD (by omega)
  refine Ex.loopE (e := encN.e) (fun pre σ => σ 18 = some (false, encT.e w) ∧ σ 24 = some (false, .list (M.map encT.e)) ∧ σ 33 = some (false, .list ((levelN M pre.length).map encT.e))) ((List.range (7 - 1)).map fun k => 1 + k) (evIt_range2 (m := 1) (n := 7) rfl (ev_bin (hlw _ _ _ (frozen_of (show upd σ 33 _ 18 = _ from t18))) (y := encN.e 1) rfl (add_nat 6 1)) (by decide) (by decide)) ⟨t18, t24, rfl⟩ ?_ ?_
  · intro pre s post σ hx ⟨s18, s24, s33⟩
    refine ⟨_, rfl, ?_⟩
    have hpl : pre.length < 6 := by have := pre_lt hx; simpa using this
    have hs : s = pre.length + 1 := by
      have h1 := pre_get hx
      rw [List.getElem?_map, List.getElem?_range (by omega)] at h1
      simp only [Option.map_some, Option.some.injEq] at h1
      omega
    subst hs
    generalize hn : pre.length = n at hpl s33
    have hb0 := hb n (by omega)
    have hb1 := hb (n + 1) (by omega)
    have hsl : (strF w (n + 1)).length ≤ 7 := by rw [str_len]; omega
    have hslim : (strF w (n + 1)).length ≤ lim := lim_small (by omega)
    refine Ex.assign (d := .list ((levelN M (n + 1)).map encT.e)) (ev_call2 (ev_var (frozen_of (show upd σ 22 _ 33 = _ from s33))) (ev_var (frozen_of (show upd σ 22 _ 24 = _ from s24))) (G_grown (by decide) hb0.1 hb0.2 hMl)) ?_
    refine Ex.assign (d := .list ((strF w (n + 1)).map encT.e)) (ev_call2 (ev_var (frozen_of (show upd (upd σ 22 _) 33 _ 18 = _ from s18))) (y := encN.e (n + 1)) (ev_var rfl) (G_stretches (by decide) (by omega) (by omega))) ?_
    have u18 : upd (upd (upd σ 22 (false, encN.e (n + 1))) 33 (false, .list ((levelN M (n + 1)).map encT.e))) 42 (false, .list ((strF w (n + 1)).map encT.e)) 18 = some (false, encT.e w) := s18
    have u24 : upd (upd (upd σ 22 (false, encN.e (n + 1))) 33 (false, .list ((levelN M (n + 1)).map encT.e))) 42 (false, .list ((strF w (n + 1)).map encT.e)) 24 = some (false, .list (M.map encT.e)) := s24
    have u33 : upd (upd (upd σ 22 (false, encN.e (n + 1))) 33 (false, .list ((levelN M (n + 1)).map encT.e))) 42 (false, .list ((strF w (n + 1)).map encT.e)) 33 = some (false, .list ((levelN M (n + 1)).map encT.e)) := rfl
    have u42 : upd (upd (upd σ 22 (false, encN.e (n + 1))) 33 (false, .list ((levelN M (n + 1)).map encT.e))) 42 (false, .list ((strF w (n + 1)).map encT.e)) 42 = some (false, .list ((strF w (n + 1)).map encT.e)) := rfl
    generalize upd (upd (upd σ 22 (false, encN.e (n + 1))) 33 (false, .list ((levelN M (n + 1)).map encT.e))) 42 (false, .list ((strF w (n + 1)).map encT.e)) = S at u18 u24 u33 u42 ⊢
    refine Ex.assign (d := .list ((unlikeT (strF w (n + 1))).map encT.e)) ?_ ?_
    · refine ev_comp (e := fun x : Tx × Nat => .tuple [.int x.2, encT.e x.1]) (e' := encT.e) (fun x => !decide (x.1 ∈ (strF w (n + 1)).take x.2)) (fun x => x.1) (xs := (strF w (n + 1)).zipIdx) (evIt_enum (e := encT.e) (ev_var (frozen_of u42)) hslim) (by rw [List.length_zipIdx]; exact hslim) fun x hx => ?_
      have v42 : upd (upd (keepFree tab sc12 (St.frozen S)) 19 (encN.e x.2)) 25 (encT.e x.1) 42 = some (.list ((strF w (n + 1)).map encT.e)) := by simp [upd, kfs]; exact frozen_of u42
      exact ⟨upd (upd (keepFree tab sc12 (St.frozen S)) 19 (encN.e x.2)) 25 (encT.e x.1), rfl, evIfs_one (Eq.trans (ev_cmp (x := encT.e x.1) (ev_var rfl) (ev_slice_to (e := encT.e) (k := x.2) (ev_var v42) (ev_var rfl) hslim) (cmp_notin encT (by decide) _ _)) (congrArg (fun b => some (D.bool (!b))) (decide_eq_decide.mpr Iff.rfl))), fun _ => rfl⟩
    have hll : (levelN M (n + 1)).length ≤ lim := lim_small (by omega)
    have hul : (unlikeT (strF w (n + 1))).length ≤ lim := by rw [← fb (n + 1) (by omega)]; exact hll
    have len1 : ∀ {ρ : Vw} {i : Nat} {x : List Tx} (p q r : Pos), ρ i = some (.list (x.map encT.e)) → x.length ≤ lim → ev tab (Gfix tab defs 10) (.len (.var i p) q r) ρ = some (encN.e x.length) := fun p q r h hx => by
      rw [ev_len (ev_var h) (by rw [List.length_map]; exact hx), List.length_map]; rfl
    have v18 : upd S 43 (false, .list ((unlikeT (strF w (n + 1))).map encT.e)) 18 = some (false, encT.e w) := u18
    have v24 : upd S 43 (false, .list ((unlikeT (strF w (n + 1))).map encT.e)) 24 = some (false, .list (M.map encT.e)) := u24
    have v33 : upd S 43 (false, .list ((unlikeT (strF w (n + 1))).map encT.e)) 33 = some (false, .list ((levelN M (n + 1)).map encT.e)) := u33
    have v42 : upd S 43 (false, .list ((unlikeT (strF w (n + 1))).map encT.e)) 42 = some (false, .list ((strF w (n + 1)).map encT.e)) := u42
    have v43 : upd S 43 (false, .list ((unlikeT (strF w (n + 1))).map encT.e)) 43 = some (false, .list ((unlikeT (strF w (n + 1))).map encT.e)) := rfl
    generalize upd S 43 (false, .list ((unlikeT (strF w (n + 1))).map encT.e)) = T at v18 v24 v33 v42 v43 ⊢
    refine Ex.iteF (Eq.trans (ev_or2 (ev_cmp (ev_call2 (ev_var (full_of v33)) (ev_var (full_of v42)) (G_compare encT (by decide) (by decide) _ _ hll hslim)) (y := .bool true) rfl (isnot_bool _ _)) fun _ => ev_cmp (len1 _ _ _ (full_of v33) hll) (len1 _ _ _ (full_of v43) hul) (cmp_ne encN (by decide) _ _)) (by rw [fa (n + 1) (by omega), decide_eq_true (fb (n + 1) (by omega))]; rfl)) ?_
    refine Ex.iteF ?_ ?_
    · have hc := ev_comp_all (tab := tab) (G := Gfix tab defs 10) (e := encT.e) (e' := encN.e) (elt := .call 15 (.cons (.var 42 ⟨65, 24, 65, 33⟩) (.cons (.var 25 ⟨65, 35, 65, 39⟩) .nil)) ⟨65, 16, 65, 23⟩ ⟨65, 16, 65, 40⟩) (t := .one 25 ⟨65, 45, 65, 49⟩) (it := .of (.var 33 ⟨65, 53, 65, 58⟩)) (sc := sc11) (p := ⟨65, 15, 65, 59⟩)
        (ρ := St.full T) (cnt (strF w (n + 1))) (xs := levelN M (n + 1)) (evIt_of (ev_var (full_of v33)) (by rw [List.length_map]; exact hll)) hll fun t ht => ⟨_, rfl, Eq.trans (ev_call2 (x := .list ((strF w (n + 1)).map encT.e)) (ev_var (by simp [upd, kfs]; exact full_of v42)) (y := encT.e t) (ev_var rfl) (G_countOf encT (by decide) (by decide) _ t hslim)) rfl⟩
      refine Eq.trans (ev_cmp (x := .raw (strF w (n + 1)).length) (y := encN.e (strF w (n + 1)).length) ?_ (len1 _ _ _ (full_of v42) hslim) (cmp_ne encN (by decide) (strF w (n + 1)).length (strF w (n + 1)).length)) (by rw [decide_eq_true rfl]; rfl)
      rw [ev_e21, hc]
      show (intsOf (((levelN M (n + 1)).map (cnt (strF w (n + 1)))).map encN.e)).map _ = _
      rw [intsOf_nat]
      show some (D.raw (((levelN M (n + 1)).map (cnt (strF w (n + 1)))).map fun n : Nat => (n : Int)).sum) = _
      rw [sum_nat, fc (n + 1) (by omega)]
    refine Ex.iteF (Eq.trans (ev_cmp (ev_call1 (ev_var (full_of v42)) (G_dedup encT (by decide) (by decide) _ hslim)) (ev_var (full_of v43)) (cmp_ne encTL (by decide) (dedup (strF w (n + 1))) (unlikeT (strF w (n + 1))))) ?_) (.nil ⟨rfl, v18, v24, ?_⟩)
    · have : dedup (strF w (n + 1)) = unlikeT (strF w (n + 1)) := fd (n + 1) (by omega)
      rw [decide_eq_true this]; rfl
    · rw [List.length_append, hn]; exact v33
  intro σ ⟨s18, s24, s33⟩
  have e6 : (((List.range (7 - 1)).map fun k => 1 + k) : List Nat).length = 6 := rfl
  rw [e6] at s33
  have hb6 := hb 6 (by decide)
  refine Ex.iteF (Eq.trans (ev_cmp (ev_call2 (ev_var (full_of s33)) (ev_var (full_of s24)) (G_grown (by decide) hb6.1 hb6.2 hMl)) (y := .list []) rfl (ne_nil encT (by decide) _)) (by rw [decide_eq_true f4]; rfl)) ?_
  refine Ex.assign (d := .list ((M.map List.reverse).map encT.e)) (ev_comp_all (e := encT.e) (e' := encT.e) List.reverse (xs := M) (evIt_of (ev_var (frozen_of s24)) (by rw [List.length_map]; exact hMl)) hMl fun t ht => ⟨_, rfl, ev_rev rfl (by have := (hMA t ht).2; omega)⟩) ?_
  have t18 : upd σ 41 (false, .list ((M.map List.reverse).map encT.e)) 18 = some (false, encT.e w) := s18
  have t24 : upd σ 41 (false, .list ((M.map List.reverse).map encT.e)) 24 = some (false, .list (M.map encT.e)) := s24
  have t41 : upd σ 41 (false, .list ((M.map List.reverse).map encT.e)) 41 = some (false, .list ((M.map List.reverse).map encT.e)) := rfl
  generalize upd σ 41 (false, .list ((M.map List.reverse).map encT.e)) = σ at t18 t24 t41 ⊢
  have tup : ∀ {a b : C} {p : Pos} {ρ : Vw} {x : List Tx} {y : Tx}, ev tab (Gfix tab defs 10) a ρ = some (.list (x.map encT.e)) → ev tab (Gfix tab defs 10) b ρ = some (encT.e y) → ev tab (Gfix tab defs 10) (.tuple (.cons a (.cons b .nil)) p) ρ = some (eCh (x, y)) := by
    intro a b p ρ x y h1 h2
    rw [ev_e6, evs_e2, h1, evs_e2, h2, evs_e1]
    show (if 2 ≤ lim then some _ else none) = _
    rw [if_pos (lim_small (by decide : 2 ≤ 100))]; rfl
  have exch : ∀ {ρ : Vw} {i : Nat} {ts : List Tx} (p1 p2 p3 p4 p5 p6 p7 : Pos), ρ i = some (.list (ts.map encT.e)) → ts.length ≤ lim → (∀ t ∈ ts, Abc t ∧ t.length ≤ 20) → ev tab (Gfix tab defs 10) (.comp (.call 37 (.cons (.var 35 p1) .nil) p2 p3) (.gen (.one 35 p4) (.of (.var i p5)) .nil .done) sc9 p6) ρ = some (.list ((ts.map (List.map swp)).map encT.e)) := by
    intro ρ i ts p1 p2 p3 p4 p5 p6 p7 h1 h2 h3
    exact ev_comp_all (e := encT.e) (e' := encT.e) (List.map swp) (xs := ts) (evIt_of (ev_var h1) (by rw [List.length_map]; exact h2)) h2 fun t ht => ⟨_, rfl, ev_call1 (x := encT.e t) (ev_var rfl) (G_exchanged (by decide) (by have := (h3 t ht).2; omega) (h3 t ht).1)⟩
  have hrA : Abc w.reverse := fun c hc => hA c (List.mem_reverse.mp hc)
  refine Ex.own (ds := [eCh (M.map List.reverse, w.reverse)]) ?_ (lim_small (by simp)) ?_
  · rw [evs_e2, tup (ev_var (frozen_of t41)) (ev_rev (frozen_of t18) (by omega))]; rfl
  have u18 : upd σ 40 (true, .list [eCh (M.map List.reverse, w.reverse)]) 18 = some (false, encT.e w) := t18
  have u24 : upd σ 40 (true, .list [eCh (M.map List.reverse, w.reverse)]) 24 = some (false, .list (M.map encT.e)) := t24
  have u41 : upd σ 40 (true, .list [eCh (M.map List.reverse, w.reverse)]) 41 = some (false, .list ((M.map List.reverse).map encT.e)) := t41
  have u40 : upd σ 40 (true, .list [eCh (M.map List.reverse, w.reverse)]) 40 = some (true, .list [eCh (M.map List.reverse, w.reverse)]) := rfl
  generalize upd σ 40 (true, .list [eCh (M.map List.reverse, w.reverse)]) = σ at u18 u24 u41 u40 ⊢
  refine Ex.append (d := eCh (M.map (List.map swp), w.map swp)) (tup (exch _ _ _ _ _ _ default (frozen_of u24) hMl hMA) (ev_call1 (ev_var (frozen_of u18)) (G_exchanged (by decide) (by omega) hA))) u40 (lim_small (by simp)) ?_
  have v18 : upd σ 40 (true, .list ([eCh (M.map List.reverse, w.reverse)] ++ [eCh (M.map (List.map swp), w.map swp)])) 18 = some (false, encT.e w) := u18
  have v24 : upd σ 40 (true, .list ([eCh (M.map List.reverse, w.reverse)] ++ [eCh (M.map (List.map swp), w.map swp)])) 24 = some (false, .list (M.map encT.e)) := u24
  have v41 : upd σ 40 (true, .list ([eCh (M.map List.reverse, w.reverse)] ++ [eCh (M.map (List.map swp), w.map swp)])) 41 = some (false, .list ((M.map List.reverse).map encT.e)) := u41
  have v40 : upd σ 40 (true, .list ([eCh (M.map List.reverse, w.reverse)] ++ [eCh (M.map (List.map swp), w.map swp)])) 40 = some (true, .list ([eCh (M.map List.reverse, w.reverse)] ++ [eCh (M.map (List.map swp), w.map swp)])) := rfl
  generalize upd σ 40 (true, .list ([eCh (M.map List.reverse, w.reverse)] ++ [eCh (M.map (List.map swp), w.map swp)])) = σ at v18 v24 v41 v40 ⊢
  have hrM : ∀ t ∈ M.map List.reverse, Abc t ∧ t.length ≤ 20 := fun t ht => by
    obtain ⟨u, hu, rfl⟩ := List.mem_map.mp ht
    obtain ⟨h1, h2⟩ := hMA u hu
    exact ⟨fun c hc => h1 c (List.mem_reverse.mp hc), by rw [List.length_reverse]; exact h2⟩
  refine Ex.append (d := eCh ((M.map List.reverse).map (List.map swp), w.reverse.map swp)) (tup (exch _ _ _ _ _ _ default (frozen_of v41) (by rw [List.length_map]; exact hMl) hrM) (ev_call1 (ev_rev (frozen_of v18) (by omega)) (G_exchanged (by decide) (by rw [List.length_reverse]; omega) hrA))) v40 (lim_small (by simp)) ?_
  refine Ex.loopF (e := eCh) (fun _ σ => σ 18 = some (false, encT.e w) ∧ σ 24 = some (false, .list (M.map encT.e))) (changesF w M) rfl (lim_small (by simp [changesF])) ⟨v18, v24⟩ ?_ ?_
  · intro pre x post σ hx ⟨s18, s24⟩
    obtain ⟨os, ch⟩ := x
    refine ⟨upd (upd σ 38 (false, .list (os.map encT.e))) 39 (false, encT.e ch), rfl, ?_⟩
    have hm : (os, ch) ∈ changesF w M := mem_mid hx
    have hol : os.length ≤ lim := by
      simp only [changesF, List.mem_cons, List.not_mem_nil, or_false, Prod.mk.injEq] at hm
      rcases hm with ⟨rfl, _⟩ | ⟨rfl, _⟩ | ⟨rfl, _⟩ <;> simp <;> exact hMl
    have t18 : upd (upd σ 38 (false, .list (os.map encT.e))) 39 (false, encT.e ch) 18 = some (false, encT.e w) := s18
    have t24 : upd (upd σ 38 (false, .list (os.map encT.e))) 39 (false, encT.e ch) 24 = some (false, .list (M.map encT.e)) := s24
    refine Ex.iteF (Eq.trans (ev_cmp (ev_call2 (x := .list (os.map encT.e)) (ev_var rfl) (ev_var (full_of t24)) (G_compare encT (by decide) (by decide) os M hol hMl)) (ev_cmp (x := encT.e ch) (ev_var rfl) (ev_var (full_of t18)) (cmp_eq encT (by decide) _ _)) (isnot_bool _ _)) ?_) (.nil ⟨rfl, s18, s24⟩)
    refine congrArg (fun b => some (D.bool b)) ?_
    rw [f5 _ hm]
    simp
  · intro σ ⟨s18, s24⟩
    exact Ex.ret (d := .bool true) rfl rfl
end L02
end Mine
end

section
namespace Mine
open PySem PySem.W PyProof.Rows
namespace L02

/-! parts of texts -/
theorem sub_iff {b a : Tx} : sub b a = true ↔ b <:+: a := by
  show hasSub b a = true ↔ _
  induction a with
  | nil =>
    simp only [hasSub, List.isEmpty_iff]
    exact ⟨fun h => h ▸ List.nil_infix, fun h => List.eq_nil_of_length_eq_zero (Nat.le_zero.mp h.length_le)⟩
  | cons c l ih =>
    rw [hasSub, Bool.or_eq_true, ih, List.infix_cons_iff, List.isPrefixOf_iff_prefix]
theorem nodup_filter {α : Type} {l : List α} (c : α → Bool) (h : l.Nodup) : (l.filter c).Nodup := List.Pairwise.filter c h
theorem nodup_map {α β : Type} {f : α → β} (hf : ∀ x y, f x = f y → x = y) : ∀ {l : List α}, l.Nodup → (l.map f).Nodup
  | [], _ => List.nodup_nil
  | x :: l, h => by
    obtain ⟨h1, h2⟩ := List.nodup_cons.mp h
    rw [List.map_cons, List.nodup_cons]
    refine ⟨fun hm => ?_, nodup_map hf h2⟩
    obtain ⟨y, hy, e⟩ := List.mem_map.mp hm
    exact h1 (hf y x e ▸ hy)
theorem nodup_flat {α β : Type} {f : α → List β} (key : β → α) : ∀ {l : List α}, l.Nodup → (∀ x ∈ l, (f x).Nodup ∧ ∀ t ∈ f x, key t = x) → (l.flatMap f).Nodup
  | [], _, _ => List.nodup_nil
  | x :: l, h, hf => by
    obtain ⟨h1, h2⟩ := List.nodup_cons.mp h
    rw [List.flatMap_cons, List.nodup_append]
    refine ⟨(hf x (List.mem_cons_self ..)).1, nodup_flat key h2 fun y hy => hf y (List.mem_cons_of_mem _ hy), fun a ha b hb e => ?_⟩
    obtain ⟨y, hy, hb⟩ := List.mem_flatMap.mp hb
    have k1 := (hf x (List.mem_cons_self ..)).2 a ha
    have k2 := (hf y (List.mem_cons_of_mem _ hy)).2 b hb
    rw [e, k2] at k1
    exact h1 (k1 ▸ hy)
/-- a text of two letters or more -/
theorem two_ends {t : Tx} (h : 2 ≤ t.length) : ∃ x p y, t = [x] ++ p ++ [y] := by
  match t, h with
  | x :: r, h =>
    rcases List.eq_nil_or_concat r with e | ⟨p, y, e⟩
    · subst e; simp at h
    · exact ⟨x, p, y, by rw [e]; simp⟩
/-- what is part of a text and not all of it lies ahead or behind -/
theorem part_of {t p : Tx} {x y : Nat} (h : t <:+: [x] ++ p ++ [y]) (hne : t ≠ [x] ++ p ++ [y]) : t <:+: [x] ++ p ∨ t <:+: p ++ [y] := by
  have e : [x] ++ p ++ [y] = x :: (p ++ [y]) := by simp
  rw [e, List.infix_cons_iff, ← e] at h
  rcases h with h | h
  · rw [List.prefix_concat_iff] at h
    rcases h with h | h
    · exact absurd h hne
    · exact .inl h.isInfix
  · exact .inr h
theorem ahead_in (p : Tx) (x y : Nat) : [x] ++ p <:+: [x] ++ p ++ [y] := ⟨[], [y], by simp⟩
theorem behind_in (p : Tx) (x y : Nat) : p ++ [y] <:+: [x] ++ p ++ [y] := ⟨[x], [], by simp⟩
theorem abc_mem {c : Nat} : c ∈ abc ↔ c = 97 ∨ c = 98 ∨ c = 99 := by simp [abc]
theorem Abc.infix {t u : Tx} (h : Abc u) (i : t <:+: u) : Abc t := fun c hc => h c (i.subset hc)

section
variable {w : Tx} (hw : w.length = 6) (hA : Abc w)
/-- a least missing word -/
noncomputable def Maw (w m : Tx) : Prop := Abc m ∧ ¬ m <:+: w ∧ ∀ t, t <:+: m → t ≠ m → t <:+: w
include hw
theorem mem_str {s : Nat} (hs : s ≤ 6) {t : Tx} : t ∈ strF w s ↔ t <:+: w ∧ t.length = s := by
  unfold strF
  rw [List.mem_map, hw]
  constructor
  · rintro ⟨k, hk, rfl⟩
    have hk := List.mem_range.mp hk
    refine ⟨⟨w.take k, (w.drop k).drop s, ?_⟩, by rw [List.length_take, List.length_drop, hw]; omega⟩
    rw [List.append_assoc, List.take_append_drop, List.take_append_drop]
  · rintro ⟨⟨a, b, e⟩, hl⟩
    refine ⟨a.length, List.mem_range.mpr ?_, ?_⟩
    · have := congrArg List.length e
      rw [List.length_append, List.length_append, hw] at this
      omega
    · rw [← e, List.append_assoc, List.drop_left, ← hl, List.take_left]
theorem mem_first {m : Tx} : m ∈ firstF w ↔ ∃ c ∈ abc, m = [c] ∧ ¬ [c] <:+: w := by
  unfold firstF
  rw [List.mem_map]
  constructor
  · rintro ⟨c, hc, rfl⟩
    obtain ⟨h1, h2⟩ := List.mem_filter.mp hc
    exact ⟨c, h1, rfl, fun h => by rw [sub_iff.mpr h] at h2; cases h2⟩
  · rintro ⟨c, hc, rfl, h⟩
    refine ⟨c, List.mem_filter.mpr ⟨hc, ?_⟩, rfl⟩
    rw [Bool.not_eq_true', ← Bool.not_eq_true, sub_iff]; exact h
theorem mem_new {p m : Tx} : m ∈ newF w p ↔ ∃ x ∈ abc, ∃ y ∈ abc, [x] ++ p <:+: w ∧ p ++ [y] <:+: w ∧ ¬ [x] ++ p ++ [y] <:+: w ∧ m = [x] ++ p ++ [y] := by
  unfold newF textsF
  rw [List.mem_filter, List.mem_flatMap, Bool.not_eq_true', ← Bool.not_eq_true, sub_iff]
  constructor
  · rintro ⟨⟨x, hx, hm⟩, hn⟩
    obtain ⟨y, hy, rfl⟩ := List.mem_map.mp hm
    obtain ⟨h1, h2⟩ := List.mem_filter.mp hx
    obtain ⟨h3, h4⟩ := List.mem_filter.mp hy
    exact ⟨x, h1, y, h3, sub_iff.mp h2, sub_iff.mp h4, hn, rfl⟩
  · rintro ⟨x, hx, y, hy, h1, h2, h3, rfl⟩
    exact ⟨⟨x, List.mem_filter.mpr ⟨hx, sub_iff.mpr h1⟩, List.mem_map.mpr ⟨y, List.mem_filter.mpr ⟨hy, sub_iff.mpr h2⟩, rfl⟩⟩, h3⟩
theorem mem_size {s : Nat} (hs : s < 6) {m : Tx} : m ∈ sizeF w s ↔ ∃ p, p.length = s ∧ m ∈ newF w p := by
  unfold sizeF
  rw [List.mem_flatMap]
  refine exists_congr fun p => ?_
  rw [mem_dedup, mem_str hw (by omega)]
  refine ⟨fun ⟨⟨h1, h2⟩, h3⟩ => ⟨h2, h3⟩, fun ⟨h2, h3⟩ => ⟨⟨?_, h2⟩, h3⟩⟩
  obtain ⟨x, _, y, _, h, _⟩ := (mem_new hw).mp h3
  exact List.IsInfix.trans ⟨[x], [], by simp⟩ h
include hA
theorem mem_miss {m : Tx} : m ∈ missF w ↔ Maw w m := by
  unfold missF
  rw [List.mem_append, List.mem_flatMap, mem_first hw, hw]
  constructor
  · rintro (⟨c, hc, rfl, h⟩ | ⟨s, hs, h⟩)
    · refine ⟨fun d hd => by rw [List.mem_singleton.mp hd]; exact abc_mem.mp hc, h, fun t ht hne => ?_⟩
      have hl := ht.length_le
      by_cases z : t.length = 1
      · exact absurd (ht.eq_of_length z) hne
      · have : t = [] := List.eq_nil_of_length_eq_zero (by rw [List.length_singleton] at hl; omega)
        rw [this]; exact List.nil_infix
    · obtain ⟨p, _, h⟩ := (mem_size hw (List.mem_range.mp hs)).mp h
      obtain ⟨x, hx, y, hy, h1, h2, h3, rfl⟩ := (mem_new hw).mp h
      refine ⟨fun d hd => ?_, h3, fun t ht hne => (part_of ht hne).elim (fun q => q.trans h1) fun q => q.trans h2⟩
      simp only [List.mem_append, List.mem_singleton] at hd
      rcases hd with (rfl | hd) | rfl
      · exact abc_mem.mp hx
      · exact hA d (h1.subset (List.mem_append_right _ hd))
      · exact abc_mem.mp hy
  · rintro ⟨h1, h2, h3⟩
    by_cases z : 2 ≤ m.length
    · right
      obtain ⟨x, p, y, rfl⟩ := two_ends z
      have ne1 : [x] ++ p ≠ [x] ++ p ++ [y] := fun e => by have := congrArg List.length e; simp at this
      have ne2 : p ++ [y] ≠ [x] ++ p ++ [y] := fun e => by have := congrArg List.length e; simp at this
      have i1 := h3 _ (ahead_in p x y) ne1
      have i2 := h3 _ (behind_in p x y) ne2
      have hl := i1.length_le
      rw [hw, List.length_append, List.length_singleton] at hl
      refine ⟨p.length, List.mem_range.mpr (by omega), (mem_size hw (by omega)).mpr ⟨p, rfl, (mem_new hw).mpr ⟨x, abc_mem.mpr (h1 x (by simp)), y, abc_mem.mpr (h1 y (by simp)), i1, i2, h2, rfl⟩⟩⟩
    · left
      match m, z, h1, h2 with
      | [], _, _, h2 => exact absurd List.nil_infix h2
      | [c], _, h1, h2 => exact ⟨c, abc_mem.mpr (h1 c (by simp)), rfl, h2⟩
      | _ :: _ :: _, z, _, _ => exact absurd (by simp) z
/-- each text that the word lacks holds a least missing word -/
theorem has_miss : ∀ (n : Nat) (t : Tx), t.length ≤ n → Abc t → ¬ t <:+: w → ∃ m ∈ missF w, m <:+: t
  | 0, t, hl, _, h => by
    have : t = [] := List.eq_nil_of_length_eq_zero (Nat.le_zero.mp hl)
    exact absurd (this ▸ List.nil_infix) h
  | n + 1, t, hl, ha, h => by
    by_cases z : 2 ≤ t.length
    · obtain ⟨x, p, y, e⟩ := two_ends z
      have hx := ahead_in p x y
      have hy := behind_in p x y
      have hlen := congrArg List.length e
      rw [List.length_append, List.length_append, List.length_singleton, List.length_singleton] at hlen
      rw [← e] at hx hy
      by_cases q1 : [x] ++ p <:+: w
      · by_cases q2 : p ++ [y] <:+: w
        · refine ⟨t, (mem_miss hw hA).mpr ⟨ha, h, fun u hu hne => ?_⟩, List.infix_rfl⟩
          rw [e] at hu hne
          exact (part_of hu hne).elim (fun q => q.trans q1) fun q => q.trans q2
        · obtain ⟨m, hm, hi⟩ := has_miss n _ (by rw [List.length_append, List.length_singleton]; omega) (ha.infix hy) q2
          exact ⟨m, hm, hi.trans hy⟩
      · obtain ⟨m, hm, hi⟩ := has_miss n _ (by rw [List.length_append, List.length_singleton]; omega) (ha.infix hx) q1
        exact ⟨m, hm, hi.trans hx⟩
    · match t, z, ha, h with
      | [], _, _, h => exact absurd List.nil_infix h
      | [c], _, ha, h =>
        refine ⟨[c], (mem_miss hw hA).mpr ⟨ha, h, fun u hu hne => ?_⟩, List.infix_rfl⟩
        have hl := hu.length_le
        by_cases z : u.length = 1
        · exact absurd (hu.eq_of_length z) hne
        · have : u = [] := List.eq_nil_of_length_eq_zero (by rw [List.length_singleton] at hl; omega)
          rw [this]; exact List.nil_infix
      | _ :: _ :: _, z, _, _ => exact absurd (by simp) z
/-- a text is part of the word just if it holds no least missing word -/
theorem part_iff {t : Tx} (ha : Abc t) : t <:+: w ↔ ∀ m ∈ missF w, ¬ m <:+: t := by
  constructor
  · intro h m hm hi
    exact ((mem_miss hw hA).mp hm).2.1 (hi.trans h)
  · intro h
    by_cases q : t <:+: w
    · exact q
    · obtain ⟨m, hm, hi⟩ := has_miss hw hA _ t (Nat.le_refl _) ha q
      exact absurd hi (h m hm)

/-! each stands once -/
theorem nodup_miss : (missF w).Nodup := by
  have habc : abc.Nodup := by decide
  unfold missF
  rw [List.nodup_append]
  refine ⟨nodup_map (fun x y e => by cases e; rfl) (nodup_filter _ habc), ?_, fun a ha b hb e => ?_⟩
  · refine nodup_flat (fun t : Tx => t.length - 2) List.nodup_range fun s hs => ⟨?_, fun t ht => ?_⟩
    · refine nodup_flat (fun t : Tx => (t.drop 1).dropLast) (nodup_dedup _) fun p hp => ⟨?_, fun t ht => ?_⟩
      · refine nodup_filter _ (nodup_flat (fun t : Tx => t.headD 0) (nodup_filter _ habc) fun x hx => ⟨nodup_map (fun y z e => ?_) (nodup_filter _ habc), fun t ht => ?_⟩)
        · have := List.append_cancel_left e
          cases this; rfl
        · obtain ⟨y, _, rfl⟩ := List.mem_map.mp ht
          rfl
      · obtain ⟨x, _, y, _, _, _, _, rfl⟩ := (mem_new hw).mp ht
        simp
    · rw [hw] at hs
      obtain ⟨p, hp, ht⟩ := (mem_size hw (List.mem_range.mp hs)).mp ht
      obtain ⟨x, _, y, _, _, _, _, rfl⟩ := (mem_new hw).mp ht
      simp [hp]
  · obtain ⟨c, _, rfl, _⟩ := (mem_first hw).mp ha
    obtain ⟨s, hs, hb⟩ := List.mem_flatMap.mp hb
    rw [hw] at hs
    obtain ⟨p, _, hb⟩ := (mem_size hw (List.mem_range.mp hs)).mp hb
    obtain ⟨x, _, y, _, _, _, _, rfl⟩ := (mem_new hw).mp hb
    have := congrArg List.length e
    simp at this
theorem fact1 {one : Tx} (ho : one ∈ missF w) : cnt ((missF w).map fun o => sub o one) true = 1 := by
  have e : cnt ((missF w).map fun o => sub o one) true = (missF w).count one := by
    unfold cnt
    rw [List.filter_map, List.length_map, List.count_eq_countP, List.countP_eq_length_filter]
    congr 1
    refine List.filter_congr fun o hm => ?_
    simp only [Function.comp]
    rw [Bool.eq_iff_iff, decide_eq_true_eq, sub_iff, beq_iff_eq]
    constructor
    · intro h
      by_cases q : o = one
      · exact q
      · exact absurd (((mem_miss hw hA).mp ho).2.2 o h q) ((mem_miss hw hA).mp hm).2.1
    · rintro rfl; exact List.infix_rfl
  rw [e, (nodup_miss hw hA).count, if_pos ho]
theorem fact2 : same ((missF w).drop 1) (missF w) = false ∧ same (missF w) ((missF w).drop 1) = false := by
  have hne : missF w ≠ [] := fun e => by
    obtain ⟨m, hm, _⟩ := has_miss hw hA 7 [97, 97, 97, 97, 97, 97, 97] (by decide) (fun c hc => by simp at hc; exact .inl hc) fun h => by
      have := h.length_le; rw [hw] at this; simp at this
    rw [e] at hm; cases hm
  have hn := nodup_miss hw hA
  generalize missF w = M at hne hn
  match M, hne, hn with
  | m :: r, _, hn =>
    have h1 := (List.nodup_cons.mp hn).1
    show same r (m :: r) = false ∧ same (m :: r) r = false
    constructor
    · rw [← Bool.not_eq_true, same_iff]; exact fun h => h1 ((h m).mpr (List.mem_cons_self ..))
    · rw [← Bool.not_eq_true, same_iff]; exact fun h => h1 ((h m).mp (List.mem_cons_self ..))
theorem miss_small {t : Tx} (h : t ∈ missF w) : Abc t ∧ t.length ≤ 20 := by
  obtain ⟨h1, h2, h3⟩ := (mem_miss hw hA).mp h
  refine ⟨h1, ?_⟩
  by_cases z : 2 ≤ t.length
  · obtain ⟨x, p, y, rfl⟩ := two_ends z
    have := (h3 _ (ahead_in p x y) fun e => by have := congrArg List.length e; simp at this).length_le
    rw [hw] at this
    simp at this ⊢; omega
  · omega

/-! level by level -/
theorem mem_grown {level : List Tx} (hl : ∀ p ∈ level, Abc p) {t : Tx} : t ∈ grownF level (missF w) ↔ ∃ p ∈ level, ∃ c ∈ abc, t = p ++ [c] ∧ t <:+: w := by
  unfold grownF longerF
  rw [List.mem_filter, List.mem_flatMap, decide_eq_true_eq, List.filter_eq_nil_iff]
  have key : ∀ p ∈ level, ∀ c ∈ abc, t = p ++ [c] → ((∀ one ∈ missF w, ¬ sub one t = true) ↔ t <:+: w) := fun p hp c hc e => by
    rw [part_iff hw hA (t := t)]
    · simp only [sub_iff]
    · rw [e]; intro d hd
      rcases List.mem_append.mp hd with hd | hd
      · exact hl p hp d hd
      · rw [List.mem_singleton.mp hd]; exact abc_mem.mp hc
  constructor
  · rintro ⟨⟨p, hp, ht⟩, h⟩
    obtain ⟨c, hc, e⟩ := List.mem_map.mp ht
    exact ⟨p, hp, c, hc, e.symm, (key p hp c hc e.symm).mp h⟩
  · rintro ⟨p, hp, c, hc, e, h⟩
    exact ⟨⟨p, hp, List.mem_map.mpr ⟨c, hc, e.symm⟩⟩, (key p hp c hc e).mpr h⟩
theorem level_mem : ∀ (n : Nat) {t : Tx}, t ∈ levelN (missF w) n ↔ t <:+: w ∧ t.length = n
  | 0, t => by
    show t ∈ [[]] ↔ _
    rw [List.mem_singleton]
    exact ⟨fun e => by rw [e]; exact ⟨List.nil_infix, rfl⟩, fun h => List.eq_nil_of_length_eq_zero h.2⟩
  | n + 1, t => by
    show t ∈ grownF (levelN (missF w) n) (missF w) ↔ _
    rw [mem_grown hw hA fun p hp => hA.infix ((level_mem n).mp hp).1]
    constructor
    · rintro ⟨p, hp, c, hc, e, h⟩
      exact ⟨h, by rw [e, List.length_append, ((level_mem n).mp hp).2]; rfl⟩
    · rintro ⟨h, hl⟩
      rcases List.eq_nil_or_concat t with e | ⟨p, c, e⟩
      · rw [e] at hl; cases hl
      · rw [List.concat_eq_append] at e
        have hp : p <:+: t := ⟨[], [c], by rw [e]; simp⟩
        have hpl : p.length = n := by rw [e, List.length_append, List.length_singleton] at hl; omega
        exact ⟨p, (level_mem n).mpr ⟨hp.trans h, hpl⟩, c, abc_mem.mpr (hA c (h.subset (by rw [e]; simp))), e, h⟩
theorem level_nodup : ∀ n, (levelN (missF w) n).Nodup
  | 0 => by simp [levelN]
  | n + 1 => by
    show (grownF (levelN (missF w) n) (missF w)).Nodup
    refine nodup_filter _ (nodup_flat List.dropLast (level_nodup n) fun p hp => ⟨nodup_map (fun x y e => ?_) (by decide), fun t ht => ?_⟩)
    · have := List.append_cancel_left e
      cases this; rfl
    · obtain ⟨c, _, rfl⟩ := List.mem_map.mp ht
      simp
theorem level_perm {n : Nat} (hn : n ≤ 6) : (levelN (missF w) n).Perm (dedup (strF w n)) := by
  refine (List.perm_ext_iff_of_nodup (level_nodup hw hA n) (nodup_dedup _)).mpr fun t => ?_
  rw [level_mem hw hA, mem_dedup, mem_str hw hn]
end

theorem unlike_dedup (xs : List Tx) : dedup xs = unlikeT xs := by
  have go : ∀ (post pre : List Tx), xs = pre ++ post → dedup pre = unlikeT pre → dedup xs = unlikeT xs := by
    intro post
    induction post with
    | nil => intro pre e h; rw [e, List.append_nil]; exact h
    | cons x post ih =>
      intro pre e h
      refine ih (pre ++ [x]) (by rw [e]; simp) ?_
      have d1 : dedup (pre ++ [x]) = addNew (dedup pre) x := by unfold dedup; rw [List.foldl_append]; rfl
      have d2 : unlikeT (pre ++ [x]) = unlikeT pre ++ if x ∈ pre then [] else [x] := by
        unfold unlikeT
        rw [List.zipIdx_append, List.filter_append, List.map_append]
        congr 1
        · congr 1
          refine List.filter_congr fun y hy => ?_
          have hlt : y.2 < pre.length := by
            have := List.snd_lt_of_mem_zipIdx hy
            omega
          rw [List.take_append_of_le_length (Nat.le_of_lt hlt)]
        · have ht : (pre ++ [x]).take pre.length = pre := List.take_left
          by_cases q : x ∈ pre
          · simp [ht, q]
          · simp [ht, q]
      rw [d1, d2, ← h]
      unfold addNew
      by_cases q : x ∈ pre
      · rw [if_pos (mem_dedup.mpr q), if_pos q, List.append_nil]
      · rw [if_neg (fun z => q (mem_dedup.mp z)), if_neg q]
  exact go xs [] rfl rfl
theorem sum_cnt {l : List Tx} (hn : l.Nodup) : ∀ str : List Tx, (∀ s ∈ str, s ∈ l) → (l.map (cnt str)).sum = str.length
  | [], _ => by
    have : ∀ l : List Tx, (l.map (cnt [])).sum = 0 := fun l => by
      induction l with
      | nil => rfl
      | cons x l ih => rw [List.map_cons, List.sum_cons, ih]; rfl
    rw [this]; rfl
  | s :: str, h => by
    have ih := sum_cnt hn str fun x hx => h x (List.mem_cons_of_mem _ hx)
    have one : ∀ l : List Tx, l.Nodup → (l.map fun t => if s = t then 1 else 0).sum = if s ∈ l then 1 else 0 := fun l => by
      induction l with
      | nil => intro _; rfl
      | cons x l ih =>
        intro hn
        obtain ⟨h1, h2⟩ := List.nodup_cons.mp hn
        rw [List.map_cons, List.sum_cons, ih h2]
        by_cases e : s = x
        · subst e; simp [h1]
        · simp [e]
    have add : ∀ l : List Tx, (l.map (cnt (s :: str))).sum = (l.map fun t => if s = t then 1 else 0).sum + (l.map (cnt str)).sum := fun l => by
      induction l with
      | nil => rfl
      | cons x l ih =>
        rw [List.map_cons, List.sum_cons, ih, List.map_cons, List.sum_cons, List.map_cons, List.sum_cons]
        have : cnt (s :: str) x = (if s = x then 1 else 0) + cnt str x := by
          unfold cnt
          by_cases e : s = x
          · rw [List.filter_cons_of_pos (by simpa using e), List.length_cons, if_pos e]; omega
          · rw [List.filter_cons_of_neg (by simpa using e), if_neg e]; omega
        omega
    rw [add, ih, one l hn, if_pos (h s (List.mem_cons_self ..)), List.length_cons]; omega

/-! the changes -/
theorem swp_swp (c : Nat) : swp (swp c) = c := by
  unfold swp
  by_cases h1 : c = 97
  · subst h1; rfl
  · by_cases h2 : c = 98
    · subst h2; rfl
    · simp [h1, h2]
theorem map_swp (t : Tx) : (t.map swp).map swp = t := by
  rw [List.map_map]
  have : swp ∘ swp = id := funext swp_swp
  rw [this, List.map_id]
theorem abc_swp {t : Tx} (h : Abc t) : Abc (t.map swp) := fun c hc => by
  obtain ⟨d, hd, rfl⟩ := List.mem_map.mp hc
  rcases h d hd with rfl | rfl | rfl
  · exact .inr (.inl rfl)
  · exact .inl rfl
  · exact .inr (.inr rfl)
/-- turning or exchanging: done twice it is undone, and parts stay parts -/
structure Turns (f : Tx → Tx) : Prop where
  inv : ∀ t, f (f t) = t
  part : ∀ {a b}, a <:+: b → f a <:+: f b
  abc : ∀ {t}, Abc t → Abc (f t)
  len : ∀ t, (f t).length = t.length
theorem turns_rev : Turns List.reverse := ⟨List.reverse_reverse, fun h => List.reverse_infix.mpr h, fun h c hc => h c (List.mem_reverse.mp hc), fun t => List.length_reverse⟩
theorem turns_swp : Turns (List.map swp) := ⟨map_swp, fun h => h.map _, abc_swp, fun t => List.length_map ..⟩
theorem turns_both : Turns fun t => t.reverse.map swp := by
  refine ⟨fun t => ?_, fun h => (List.reverse_infix.mpr h).map _, fun h => abc_swp (turns_rev.abc h), fun t => by rw [List.length_map, List.length_reverse]⟩
  show ((t.reverse.map swp).reverse).map swp = t
  rw [← List.map_reverse, List.reverse_reverse, map_swp]
theorem change {w : Tx} (hw : w.length = 6) (hA : Abc w) {f : Tx → Tx} (F : Turns f) : same ((missF w).map f) (missF w) = decide (f w = w) := by
  have back : ∀ {a b}, f a <:+: b → a <:+: f b := fun {a b} h => by have := F.part h; rwa [F.inv] at this
  rw [Bool.eq_iff_iff, same_iff, decide_eq_true_eq]
  constructor
  · intro h
    have : f w <:+: w := by
      rw [part_iff hw hA (F.abc hA)]
      intro m hm hi
      obtain ⟨m', hm', rfl⟩ := List.mem_map.mp ((h m).mpr hm)
      have := back hi
      rw [F.inv] at this
      exact ((mem_miss hw hA).mp hm').2.1 this
    exact this.eq_of_length (F.len w)
  · intro e m
    have step : ∀ {m}, Maw w m → Maw w (f m) := fun {m} ⟨h1, h2, h3⟩ => by
      refine ⟨F.abc h1, fun h => h2 ?_, fun t ht hne => ?_⟩
      · have := back h; rwa [e] at this
      · have h4 : f t <:+: m := by have := F.part ht; rwa [F.inv] at this
        have h5 := h3 _ h4 fun q => hne (by rw [← q, F.inv])
        have := back h5; rwa [e] at this
    rw [List.mem_map]
    constructor
    · rintro ⟨m', hm', rfl⟩
      exact (mem_miss hw hA).mpr (step ((mem_miss hw hA).mp hm'))
    · intro hm
      exact ⟨f m, (mem_miss hw hA).mpr (step ((mem_miss hw hA).mp hm)), F.inv m⟩

theorem letter_abc (ns : List Int) (k s : Nat) : letter ns k s = 97 ∨ letter ns k s = 98 ∨ letter ns k s = 99 := by
  unfold letter
  have h := (mod5 ((s : Int) + drawn ns k 24 6)).2
  generalize (((s : Int) + drawn ns k 24 6) % 5).toNat = v at h
  match v, h with
  | 0, _ => exact .inl rfl
  | 1, _ => exact .inl rfl
  | 2, _ => exact .inr (.inl rfl)
  | 3, _ => exact .inr (.inl rfl)
  | 4, _ => exact .inr (.inr rfl)
  | n + 5, h => exact absurd h (by omega)
theorem law_holds (ns : List Int) (hl : ns.length ≤ 63) : evDef tab (Gfix tab defs 10) [16] b_law [.list (ns.map .raw)] = some (.bool true) := by
  have hw : (wordF ns).length = 6 := rfl
  have hA : Abc (wordF ns) := fun c hc => by
    simp only [wordF, List.mem_cons, List.not_mem_nil, or_false] at hc
    rcases hc with rfl | rfl | rfl | rfl | rfl | rfl <;> exact letter_abc ..
  generalize hwd : wordF ns = w at hw hA
  have hp := fun n (hn : n ≤ 6) => level_perm hw hA hn
  refine law_walk ns hl w hwd.symm (missF w) rfl hA (fun one ho => fact1 hw hA ho) (fact2 hw hA) (fun n hn => ⟨?_, fun t ht => ?_⟩) (fun n hn => ?_) (fun n hn => ?_) (fun n hn => ?_) (fun n hn => unlike_dedup _) ?_ (fun t ht => miss_small hw hA ht) fun x hx => ?_
  · rw [(hp n hn).length_eq]
    refine Nat.le_trans (length_dedup _) ?_
    rw [str_len]; omega
  · rw [((level_mem hw hA n).mp ht).2]; omega
  · rw [same_iff]; intro t; rw [(hp n hn).mem_iff, mem_dedup]
  · rw [(hp n hn).length_eq, unlike_dedup]
  · refine sum_cnt (level_nodup hw hA n) _ fun s hs => ?_
    rw [(hp n hn).mem_iff, mem_dedup]; exact hs
  · rw [List.eq_nil_iff_forall_not_mem]
    intro t ht
    obtain ⟨h1, h2⟩ := (level_mem hw hA 7).mp ht
    have := h1.length_le
    rw [h2, hw] at this
    omega
  · simp only [changesF, List.mem_cons, List.not_mem_nil, or_false] at hx
    rcases hx with rfl | rfl | rfl
    · exact change hw hA turns_rev
    · exact change hw hA turns_swp
    · have := change hw hA turns_both
      rw [List.map_map]
      exact this
end L02
end Mine
end

section
namespace Mine
open PySem PySem.W PyProof.Rows

namespace L02

open PySem.W.X
theorem law_true (ns : List Int) (hl : ns.length ≤ 63) : evDef tab (Gfix tab defs 10) [16] b_law [.list (ns.map .raw)] = some (.bool true) := law_holds ns hl
set_option maxHeartbeats 8000000 in
theorem top : PySem.Challenge.rw_wn0002_02.Holds := by
  w_on
  o_law
  z_head
  case hw => w_witness2
  k_fill
  intro w s₀ s₁ mg mb G y fa o pm cd doc dV kV ho hd hcd hD hmg hg args vals as L hpre hlay hrd hwl hlo
  z_open y L KX ZH ZN ZT
  refine Ground.open G ?_
  intro T B D TE TW
  wrow_args hpre hlay hrd hwl hlo
  have htk := script_toks L ZT
  clear hd hcd B D TE TW G hD
  rename_i ns _ _ _ _ _ _ _ l vs _ hl _ _ _ hi _ hc _
  have hdefs := defsOk_of (q := PySem.Challenge.pw_wn0002_02) T (by kernel_rfl) recs fits binds
  refine law_call (i := 17) (n := 10) (ns := ns) T KX (by k_is) (by
    intro x hx
    simp only [List.mem_cons, List.not_mem_nil, or_false] at hx
    rcases hx with rfl | rfl | rfl | rfl | rfl | rfl | rfl | rfl <;> k_is) tabOk hdefs rfl (by decide) hmg hl hi (Nat.lt_of_lt_of_le (by decide) htk) (law_true ns (by omega)) fun h' tk k => ?_
  exact ⟨.inl ⟨_, .bool true, [], rfl, fun _ => rfl, .bool true, by wrow_post, fun _ => ⟨.nil, fun _ ha => nomatch ha⟩⟩, .of_keep k, rfl, .of_eq hg⟩
end L02
end Mine
end

open PySem PySem.W PyProof.Rows
theorem PySem.Challenge.cw_wn0002_02_holds : PySem.Challenge.rw_wn0002_02.Holds := by
  exact Mine.L02.top
