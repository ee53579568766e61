import PyProof.Rows.All
import Wide.All
import OpenK.AllK
import Wide.FinOn
import Lean
import PySem.Challenge.RW_wn0059_02
set_option Elab.async false
set_option linter.unusedVariables false
set_option linter.unusedSimpArgs false
open PySem PySem.W PySem.Calls PyProof.Rows
set_option maxRecDepth 100000
set_option maxHeartbeats 4000000
namespace Mine
section -- MA
/-! ## data -/
inductive D where
  | none
  | bool (b : Bool)
  | int (i : Int)
  | tup (l : List D)
  | lst (l : List D)

noncomputable abbrev Led := List (Addr × Obj)
noncomputable abbrev Names := List (Str × NameKind)
noncomputable abbrev R := D × Bool

noncomputable def atom : D → Bool
  | .none => true
  | .bool _ => true
  | .int _ => true
  | .tup _ => false
  | .lst _ => false

noncomputable def allAtom (l : List D) : Bool := l.all atom

mutual
noncomputable def D.py : D → PyData
  | .none => .none
  | .bool b => .bool b
  | .int i => .int i
  | .tup l => .tuple (pys l)
  | .lst l => .list (pys l)
noncomputable def pys : List D → List PyData
  | [] => []
  | d :: r => d.py :: pys r
end

mutual
noncomputable def D.dep : D → Nat
  | .none => 0
  | .bool _ => 0
  | .int _ => 0
  | .tup l => deps l + 1
  | .lst l => deps l + 1
noncomputable def deps : List D → Nat
  | [] => 0
  | d :: r => max d.dep (deps r)
end

noncomputable def eqD (a b : D) : Bool := PyData.eqv a.py b.py

inductive Slot where
  | unset
  | val (d : D)
  | own (l : List D)
  | cel (d : Option D)
  | fre (d : D)
  | raw (v : Value)

noncomputable abbrev Rho := List (Str × Slot)
noncomputable abbrev Phi := Str → List D → Option D

noncomputable def getV (ρ : Rho) (x : Str) : Option R :=
  match ρ.lookup x with
  | some (.val d) => some (d, true)
  | some (.cel (some d)) => some (d, true)
  | some (.fre d) => some (d, true)
  | some (.own l) => some (.lst l, false)
  | _ => none

/-- whole numbers that the program's top names -/
noncomputable def cstI (x : Str) : Option Int := if x = Str.ofString "_DIV_LIMIT" then some 4000 else none
noncomputable def line24 : Nat := 16777216

noncomputable def truthD : D → Option Bool
  | .none => some false
  | .bool b => some b
  | .int i => some (i != 0)
  | .lst l => some (!l.isEmpty)
  | .tup _ => none

/-- sizes that the model does not ask about -/
noncomputable def log8 (a : Int) : Bool := decide (a.natAbs.log2 < 8000)
noncomputable def log60 (a : Int) : Bool := decide (a.natAbs.log2 < 60)
noncomputable def mulFit (a b : Int) : Bool := log60 a || log60 b || (log8 a && log8 b)

noncomputable def seqR (l : List D) (f : Bool) : Option R :=
  if l.length ≤ line24 ∧ (f || allAtom l) = true then some (.lst l, true) else none

theorem no {α : Type} {r : α} {P : Prop} (h : none = some r) : P := nomatch h
noncomputable def iiR (op : Operator) (x y : Int) : Option R := match op with
  | .Add => some (.int (x + y), true)
  | .Sub => some (.int (x - y), true)
  | .Mult => if mulFit x y then some (.int (x * y), true) else none
  | .FloorDiv => if y ≠ 0 ∧ log8 y = true then some (.int (x.fdiv y), true) else none
  | .Mod => if y = 0 then none else some (.int (x.fmod y), true)
  | .Pow => if 0 ≤ y ∧ y ≤ 1000 ∧ log60 x = true then some (.int (x ^ y.toNat), true) else none
  | .LShift => if 0 ≤ y ∧ y ≤ 100000 ∧ log8 x = true then some (.int (x * 2 ^ y.toNat), true) else none
  | .RShift => if 0 ≤ y then some (.int (x.fdiv (2 ^ y.toNat)), true) else none
  | .BitAnd => some (.int (Builtin.bitAnd x y), true)
  | .BitXor => some (.int (Builtin.bitXor x y), true)
  | _ => none
noncomputable def llR (op : Operator) (x y : List D) (f : Bool) : Option R := match op with
  | .Add => seqR (x ++ y) f
  | _ => none
noncomputable def liR (op : Operator) (x : List D) (f : Bool) (k : Int) : Option R := match op with
  | .Mult => if 0 ≤ k ∧ k < 2 ^ 24 ∧ x.length * k.toNat ≤ line24 then seqR (List.replicate k.toNat x).flatten f else none
  | _ => none
noncomputable def bopR (op : Operator) (a b : R) : Option R := match a.1 with
  | .int x => (match b.1 with
    | .int y => iiR op x y
    | _ => none)
  | .lst x => (match b.1 with
    | .lst y => llR op x y (a.2 && b.2)
    | .int k => liR op x a.2 k
    | _ => none)
  | _ => none

noncomputable def uopR (op : UnaryOp) (a : R) : Option R :=
  match op, a with
  | .USub, (.int x, _) => some (.int (-x), true)
  | .Invert, (.int x, _) => some (.int (-x - 1), true)
  | .Not, (d, _) => (truthD d).map fun b => (.bool (!b), true)
  | _, _ => none

noncomputable def icR (op : CmpOp) (x y : Int) : Option Bool := match op with
  | .Lt => some (decide (x < y))
  | .LtE => some (decide (x ≤ y))
  | .Gt => some (decide (y < x))
  | .GtE => some (decide (y ≤ x))
  | _ => none
noncomputable def ilR (op : CmpOp) (x y : D) : Option Bool := match x with
  | .int x => (match y with
    | .int y => icR op x y
    | _ => none)
  | _ => none
noncomputable def cmpR (op : CmpOp) (a b : R) : Option Bool := match op with
  | .Eq => if a.1.dep ≤ 60 ∧ b.1.dep ≤ 60 then some (eqD a.1 b.1) else none
  | .NotEq => if a.1.dep ≤ 60 ∧ b.1.dep ≤ 60 then some (!eqD a.1 b.1) else none
  | _ => ilR op a.1 b.1

noncomputable def pickD (l : List D) (lo hi st : Option Int) : List D :=
  ((sliceRange (sliceBounds lo hi st l.length).1 (sliceBounds lo hi st l.length).2.1 (sliceBounds lo hi st l.length).2.2).filterMap (l[·]?))

noncomputable def idxD (a : R) (k : Int) : Option R :=
  match a with
  | (.lst l, f) => if -(l.length : Int) ≤ k ∧ k < l.length then
      (l[(if k < 0 then k + l.length else k).toNat]?).bind fun d => if (f || atom d) = true then some (d, true) else none else none
  | (.tup l, f) => if -(l.length : Int) ≤ k ∧ k < l.length then
      (l[(if k < 0 then k + l.length else k).toNat]?).bind fun d => if (f || atom d) = true then some (d, true) else none else none
  | _ => none

noncomputable def intsOf : List D → Option (List Int)
  | [] => some []
  | .int i :: r => (intsOf r).map (i :: ·)
  | _ :: _ => none

noncomputable def minI : List Int → Option Int
  | [] => none
  | a :: r => some (r.foldl (fun m x => if x < m then x else m) a)

noncomputable def builtD (g : Str) (ds : List D) : Option (Option D) :=
  if g = Str.ofString "len" then some (match ds with
    | [.lst l] => some (.int l.length)
    | _ => none)
  else if g = Str.ofString "abs" then some (match ds with
    | [.int i] => some (.int (if i < 0 then -i else i))
    | _ => none)
  else if g = Str.ofString "sum" then some (match ds with
    | [.lst l] => (intsOf l).map fun ns => .int ns.sum
    | _ => none)
  else if g = Str.ofString "min" then some (match ds with
    | [.lst l] => ((intsOf l).bind minI).map .int
    | _ => none)
  else if g = Str.ofString "divmod" then some (match ds with
    | [.int a, .int b] => if b ≠ 0 ∧ log8 b = true then some (.tup [.int (a.fdiv b), .int (a.fmod b)]) else none
    | _ => none)
  else none

noncomputable def rangeD (a b c : Int) : Option (List D) :=
  if c ≠ 0 ∧ log8 c = true ∧ Builtin.Range.small a b c = true ∧ 0 ≤ Builtin.Range.rangeSize a b c ∧ (Builtin.Range.rangeSize a b c).toNat ≤ line24 then
    some ((List.range (Builtin.Range.rangeSize a b c).toNat).map fun (i : Nat) => D.int (a + i * c))
  else none

noncomputable def notStar : Expr → Bool
  | .Starred .. => false
  | _ => true
noncomputable def notSet : Expr → Bool
  | .Set .. => false
  | _ => true

/-- the comprehension's own table of names, and what it sees -/
noncomputable def relN (nm : Names) (sc : Scope) : Names :=
  sc.names.map fun (n, k) => if (k == NameKind.free && nm.lookup n == some NameKind.cell) = true then (n, NameKind.cell) else (n, k)
noncomputable def compScopeOk (nm : Names) (sc : Scope) : Bool :=
  sc.names.all fun (n, k) => match k with
    | .local => sc.names.lookup n == some .local
    | .free => nm.lookup n == some .cell && sc.names.lookup n == some .free
    | .globalImplicit => true
    | _ => false
noncomputable def freeRho (sc : Scope) (ρ : Rho) : Rho :=
  sc.names.filterMap fun (n, k) => if k == NameKind.free then (match ρ.lookup n with
    | some (.cel d) => some (n, .cel d)
    | _ => none) else none
noncomputable def bindT (sc : Scope) : Expr → D → Option Rho
  | .Name x _, d => if sc.names.lookup x == some .local then some [(x, .val d)] else none
  | .Tuple [.Name x _, .Name y _] _ _, .tup [a, b] => if sc.names.lookup x == some .local && sc.names.lookup y == some .local && x != y then some [(x, .val a), (y, .val b)] else none
  | _, _ => none
noncomputable def scopeKindOk (sc : Scope) : Bool := sc.kind == .function

noncomputable def notSlice : Expr → Bool
  | .Slice .. => false
  | _ => true

/-- what is shown: an expression's value, a row's values, a slice's part, a test, a chain of comparisons, all, any, what a loop runs over -/
inductive Jd where
  | E (e : Expr) (r : R)
  | S (es : List Expr) (ds : List D) (f : Bool)
  | P (e : Option Expr) (k : Option Int)
  | T (e : Expr) (b : Bool)
  | C (a : R) (ops : List CmpOp) (rs : List Expr) (b : Bool)
  | A (es : List Expr) (b : Bool)
  | O (es : List Expr) (b : Bool)
  | I (e : Expr) (ds : List D)

inductive Ev (Φ : Phi) : Names → Rho → Jd → Prop
  | n {nm ρ x p a} (h : getV ρ x = some a) : Ev Φ nm ρ (.E (.Name x p) a)
  | g {nm ρ x p i} (h : getV ρ x = none) (h1 : nm.lookup x = some .globalImplicit) (h2 : cstI x = some i) : Ev Φ nm ρ (.E (.Name x p) (.int i, true))
  | i {nm ρ i k p} : Ev Φ nm ρ (.E (.Constant (.int i) k p) (.int i, true))
  | b {nm ρ i k p} : Ev Φ nm ρ (.E (.Constant (.bool i) k p) (.bool i, true))
  | bin {nm ρ l r op p a b c} (h1 : Ev Φ nm ρ (.E l a)) (h2 : Ev Φ nm ρ (.E r b)) (h3 : bopR op a b = some c) : Ev Φ nm ρ (.E (.BinOp l op r p) c)
  | un {nm ρ x op p a c} (h1 : Ev Φ nm ρ (.E x a)) (h3 : uopR op a = some c) : Ev Φ nm ρ (.E (.UnaryOp op x p) c)
  | ift {nm ρ t x y p v c} (h1 : Ev Φ nm ρ (.T t v)) (hv : v = true) (h2 : Ev Φ nm ρ (.E x c)) : Ev Φ nm ρ (.E (.IfExp t x y p) c)
  | iff {nm ρ t x y p v c} (h1 : Ev Φ nm ρ (.T t v)) (hv : v = false) (h2 : Ev Φ nm ρ (.E y c)) : Ev Φ nm ρ (.E (.IfExp t x y p) c)
  | cmp {nm ρ l r op p a b v} (hs : notSet r = true) (h1 : Ev Φ nm ρ (.E l a)) (h2 : Ev Φ nm ρ (.E r b)) (h3 : cmpR op a b = some v) : Ev Φ nm ρ (.E (.Compare l [op] [r] p) (.bool v, true))
  | lst {nm ρ es p ds f c} (h1 : Ev Φ nm ρ (.S es ds f)) (h2 : seqR ds f = some c) : Ev Φ nm ρ (.E (.List es p) c)
  | tup {nm ρ es k p ds f} (h1 : Ev Φ nm ρ (.S es ds f)) (hl : ds.length ≤ line24) (hf : (f || allAtom ds) = true) : Ev Φ nm ρ (.E (.Tuple es k p) (.tup ds, true))
  | sub {nm ρ v i p a k f c} (hi : notSlice i = true) (h1 : Ev Φ nm ρ (.E v a)) (h2 : Ev Φ nm ρ (.E i (.int k, f))) (h3 : idxD a k = some c) : Ev Φ nm ρ (.E (.Subscript v i p) c)
  | sl {nm ρ v lo hi st q p l u t ds ds' f c} (h1 : Ev Φ nm ρ (.E v (.lst ds, f))) (h2 : Ev Φ nm ρ (.P lo l)) (h3 : Ev Φ nm ρ (.P hi u)) (h4 : Ev Φ nm ρ (.P st t)) (h5 : t ≠ some 0) (h6 : pickD ds l u t = ds') (h7 : seqR ds' (f || allAtom ds) = some c) : Ev Φ nm ρ (.E (.Subscript v (.Slice lo hi st q) p) c)
  | callf {nm ρ g gp es p ds f d} (h1 : nm.lookup g = some .globalImplicit) (h2 : Ev Φ nm ρ (.S es ds f)) (hf : f = true) (h3 : Φ g ds = some d) : Ev Φ nm ρ (.E (.Call (.Name g gp) es [] p) (d, true))
  | callb {nm ρ g gp es p ds f d} (h1 : nm.lookup g = some .globalImplicit) (h2 : Ev Φ nm ρ (.S es ds f)) (hb : builtD g ds = some (some d)) : Ev Φ nm ρ (.E (.Call (.Name g gp) es [] p) (d, true))
  | bits {nm ρ x a xp ap p i f} (ha : a = Str.ofString "bit_length") (hp : ap.endLine = p.line) (h : Ev Φ nm ρ (.E (.Name x xp) (.int i, f))) : Ev Φ nm ρ (.E (.Call (.Attribute (.Name x xp) a ap) [] [] p) (.int (Builtin.Int.intBits i), true))
  | comp {nm ρ elt tgt iter ifs sc p} {β : Type} {xs : List β} {item : β → D} {bs : β → Rho} {t : β → Bool} {g : β → D} (hc : compScopeOk nm sc = true ∧ scopeKindOk sc = true ∧ notSet iter = true ∧ sc.names.all (fun x => !(x.1 == Str.ofString "__debug__")) = true) (h0 : Ev Φ nm ρ (.I iter (xs.map item))) (hb : ∀ x ∈ xs, bindT sc tgt (item x) = some (bs x)) (h1 : ∀ x ∈ xs, Ev Φ (relN nm sc) (bs x ++ freeRho sc ρ) (.A ifs (t x))) (h2 : ∀ x ∈ xs, t x = true → Ev Φ (relN nm sc) (bs x ++ freeRho sc ρ) (.E elt (g x, true))) : Ev Φ nm ρ (.E (.ListComp elt [⟨tgt, iter, ifs, 0⟩] sc p) (.lst ((xs.filter t).map g), true))
  | s_nil {nm ρ} : Ev Φ nm ρ (.S [] [] true)
  | s_cons {nm ρ e r a ds f} (hs : notStar e = true) (h1 : Ev Φ nm ρ (.E e a)) (h2 : Ev Φ nm ρ (.S r ds f)) : Ev Φ nm ρ (.S (e :: r) (a.1 :: ds) (a.2 && f))
  | p_none {nm ρ} : Ev Φ nm ρ (.P none none)
  | p_some {nm ρ e i f} (h : Ev Φ nm ρ (.E e (.int i, f))) : Ev Φ nm ρ (.P (some e) (some i))
  | t_not {nm ρ x p v} (h : Ev Φ nm ρ (.T x v)) : Ev Φ nm ρ (.T (.UnaryOp .Not x p) (!v))
  | t_and {nm ρ xs p v} (h : Ev Φ nm ρ (.A xs v)) : Ev Φ nm ρ (.T (.BoolOp .And xs p) v)
  | t_or {nm ρ xs p v} (h : Ev Φ nm ρ (.O xs v)) : Ev Φ nm ρ (.T (.BoolOp .Or xs p) v)
  | t_cmp {nm ρ l ops rs p a v} (h1 : Ev Φ nm ρ (.E l a)) (h2 : Ev Φ nm ρ (.C a ops rs v)) : Ev Φ nm ρ (.T (.Compare l ops rs p) v)
  | t_name {nm ρ x p a v} (h : Ev Φ nm ρ (.E (.Name x p) a)) (h2 : truthD a.1 = some v) : Ev Φ nm ρ (.T (.Name x p) v)
  | t_call {nm ρ f es ks p a v} (h : Ev Φ nm ρ (.E (.Call f es ks p) a)) (h2 : truthD a.1 = some v) : Ev Φ nm ρ (.T (.Call f es ks p) v)
  | t_bin {nm ρ l op r p a v} (h : Ev Φ nm ρ (.E (.BinOp l op r p) a)) (h2 : truthD a.1 = some v) : Ev Φ nm ρ (.T (.BinOp l op r p) v)
  | t_sub {nm ρ x i p a v} (h : Ev Φ nm ρ (.E (.Subscript x i p) a)) (h2 : truthD a.1 = some v) : Ev Φ nm ρ (.T (.Subscript x i p) v)
  | k_one {nm ρ a b op r v} (hs : notSet r = true) (h1 : Ev Φ nm ρ (.E r b)) (h2 : cmpR op a b = some v) : Ev Φ nm ρ (.C a [op] [r] v)
  | k_two {nm ρ a b op o2 r r2 v v2} (hs : notSet r = true) (hs2 : notSet r2 = true) (h1 : Ev Φ nm ρ (.E r b)) (h2 : cmpR op a b = some v) (h3 : Ev Φ nm ρ (.C b [o2] [r2] v2)) : Ev Φ nm ρ (.C a [op, o2] [r, r2] (v && v2))
  | a_nil {nm ρ} : Ev Φ nm ρ (.A [] true)
  | a_cons {nm ρ e r v w} (h1 : Ev Φ nm ρ (.T e v)) (h2 : Ev Φ nm ρ (.A r w)) : Ev Φ nm ρ (.A (e :: r) (v && w))
  | o_nil {nm ρ} : Ev Φ nm ρ (.O [] false)
  | o_cons {nm ρ e r v w} (h1 : Ev Φ nm ρ (.T e v)) (h2 : Ev Φ nm ρ (.O r w)) : Ev Φ nm ρ (.O (e :: r) (v || w))
  | i_lst {nm ρ x l} (h : Ev Φ nm ρ (.E x (.lst l, true))) : Ev Φ nm ρ (.I x l)
  | i_rev {nm ρ x gp p l} (h1 : nm.lookup (Str.ofString "reversed") = some .globalImplicit) (hs : notStar x = true) (h : Ev Φ nm ρ (.E x (.lst l, true))) : Ev Φ nm ρ (.I (.Call (.Name (Str.ofString "reversed") gp) [x] [] p) l.reverse)
  | i_rng {nm ρ e gp p b f X} (h1 : nm.lookup (Str.ofString "range") = some .globalImplicit) (h2 : Ev Φ nm ρ (.S [e] [.int b] f)) (h3 : rangeD 0 b 1 = some X) : Ev Φ nm ρ (.I (.Call (.Name (Str.ofString "range") gp) [e] [] p) X)
  | i_rng3 {nm ρ e1 e2 e3 gp p a b c f X} (h1 : nm.lookup (Str.ofString "range") = some .globalImplicit) (h2 : Ev Φ nm ρ (.S [e1, e2, e3] [.int a, .int b, .int c] f)) (h3 : rangeD a b c = some X) : Ev Φ nm ρ (.I (.Call (.Name (Str.ofString "range") gp) [e1, e2, e3] [] p) X)
end
section -- MB
/-! ## what a value stands for -/
noncomputable def Zn (h₀ : Heap) (fz : Led) (a : Addr) (o : Obj) : Prop := h₀.get? a = some o ∨ (a, o) ∈ fz

mutual
inductive Rep (h₀ : Heap) (fz : Led) : Value → D → Prop
  | none : Rep h₀ fz .none .none
  | bool (b) : Rep h₀ fz (.bool b) (.bool b)
  | int (i t) : Rep h₀ fz (.int i t) (.int i)
  | tup {a o vs n ds} : Zn h₀ fz a o → o.cls = .type "tuple" → o.data = .seq vs n → vs.size ≤ line24 → Reps h₀ fz vs.toList ds → Rep h₀ fz (.ref a) (.tup ds)
  | lst {a o vs n ds} : Zn h₀ fz a o → o.cls = .type "list" → o.data = .seq vs n → vs.size ≤ line24 → Reps h₀ fz vs.toList ds → Rep h₀ fz (.ref a) (.lst ds)
inductive Reps (h₀ : Heap) (fz : Led) : List Value → List D → Prop
  | nil : Reps h₀ fz [] []
  | cons {v d vs ds} : Rep h₀ fz v d → Reps h₀ fz vs ds → Reps h₀ fz (v :: vs) (d :: ds)
end

mutual
theorem Rep.mono {h₀ h₁ : Heap} {fz fz' : Led} (hz : ∀ a o, (o.cls = .type "tuple" ∨ o.cls = .type "list") → Zn h₀ fz a o → Zn h₁ fz' a o) : ∀ {v d}, Rep h₀ fz v d → Rep h₁ fz' v d
  | _, _, .none => .none
  | _, _, .bool b => .bool b
  | _, _, .int i t => .int i t
  | _, _, .tup z c e s r => .tup (hz _ _ (.inl c) z) c e s (Reps.mono hz r)
  | _, _, .lst z c e s r => .lst (hz _ _ (.inr c) z) c e s (Reps.mono hz r)
theorem Reps.mono {h₀ h₁ : Heap} {fz fz' : Led} (hz : ∀ a o, (o.cls = .type "tuple" ∨ o.cls = .type "list") → Zn h₀ fz a o → Zn h₁ fz' a o) : ∀ {vs ds}, Reps h₀ fz vs ds → Reps h₁ fz' vs ds
  | _, _, .nil => .nil
  | _, _, .cons h r => .cons (Rep.mono hz h) (Reps.mono hz r)
end

theorem Rep.sub {h₀ : Heap} {fz fz' : Led} (hs : ∀ p ∈ fz, p ∈ fz') {v d} (r : Rep h₀ fz v d) : Rep h₀ fz' v d := r.mono fun _ _ _ z => z.imp id (hs _)
theorem Reps.sub {h₀ : Heap} {fz fz' : Led} (hs : ∀ p ∈ fz, p ∈ fz') {v d} (r : Reps h₀ fz v d) : Reps h₀ fz' v d := r.mono fun _ _ _ z => z.imp id (hs _)

theorem Rep.atom {h₀ h₁ : Heap} {fz fz' : Led} {v d} (r : Rep h₀ fz v d) (ha : atom d = true) : Rep h₁ fz' v d := by
  cases r <;> first | exact .none | exact .bool _ | exact .int _ _ | cases ha
theorem Reps.atoms {h₀ h₁ : Heap} {fz fz' : Led} : ∀ {vs ds}, Reps h₀ fz vs ds → allAtom ds = true → Reps h₁ fz' vs ds
  | _, _, .nil, _ => .nil
  | _, _, .cons h r, e => by
    have e' := e
    simp only [allAtom, List.all_cons, Bool.and_eq_true] at e'
    exact .cons (h.atom e'.1) (r.atoms e'.2)

theorem Reps.length {h₀ : Heap} {fz : Led} : ∀ {vs ds}, Reps h₀ fz vs ds → vs.length = ds.length
  | _, _, .nil => rfl
  | _, _, .cons _ r => by simp [r.length]
theorem Reps.append {h₀ : Heap} {fz : Led} : ∀ {vs ds us es}, Reps h₀ fz vs ds → Reps h₀ fz us es → Reps h₀ fz (vs ++ us) (ds ++ es)
  | _, _, _, _, .nil, h => h
  | _, _, _, _, .cons h r, q => .cons h (r.append q)
theorem Reps.get {h₀ : Heap} {fz : Led} : ∀ {vs ds}, Reps h₀ fz vs ds → ∀ (i : Nat) {d}, ds[i]? = some d → ∃ v, vs[i]? = some v ∧ Rep h₀ fz v d
  | _, _, .nil, i, _, h => by simp at h
  | _, _, .cons h r, 0, _, e => by simp at e; subst e; exact ⟨_, rfl, h⟩
  | _, _, .cons h r, i + 1, _, e => by simp at e; simpa using r.get i e
theorem Reps.get' {h₀ : Heap} {fz : Led} : ∀ {vs ds}, Reps h₀ fz vs ds → ∀ (i : Nat) {v}, vs[i]? = some v → ∃ d, ds[i]? = some d ∧ Rep h₀ fz v d
  | _, _, .nil, i, _, h => by simp at h
  | _, _, .cons h r, 0, _, e => by simp at e; subst e; exact ⟨_, rfl, h⟩
  | _, _, .cons h r, i + 1, _, e => by simp at e; simpa using r.get' i e
theorem Reps.none {h₀ : Heap} {fz : Led} {vs ds} (r : Reps h₀ fz vs ds) (i : Nat) (h : ds[i]? = none) : vs[i]? = none := by
  rw [List.getElem?_eq_none_iff] at h ⊢; rw [r.length]; exact h
theorem Reps.places {h₀ : Heap} {fz : Led} {vs ds} (r : Reps h₀ fz vs ds) : ∀ js : List Nat, Reps h₀ fz (js.filterMap (vs[·]?)) (js.filterMap (ds[·]?))
  | [] => .nil
  | j :: js => by
    have ih := r.places js
    cases hd : ds[j]? with
    | some d =>
      obtain ⟨v, hv, hr⟩ := r.get j hd
      simp only [List.filterMap_cons, hd, hv]; exact .cons hr ih
    | none =>
      have hv := r.none j hd
      simp only [List.filterMap_cons, hd, hv]; exact ih
theorem Reps.reverse {h₀ : Heap} {fz : Led} : ∀ {vs ds}, Reps h₀ fz vs ds → Reps h₀ fz vs.reverse ds.reverse
  | _, _, .nil => .nil
  | _, _, .cons h r => by
    rw [List.reverse_cons, List.reverse_cons]; exact r.reverse.append (.cons h .nil)
theorem Reps.flat {h₀ : Heap} {fz : Led} {vs ds} (r : Reps h₀ fz vs ds) : ∀ k, Reps h₀ fz (List.replicate k vs).flatten (List.replicate k ds).flatten
  | 0 => .nil
  | k + 1 => by rw [List.replicate_succ, List.replicate_succ, List.flatten_cons, List.flatten_cons]; exact r.append (r.flat k)
theorem Reps.set {h₀ : Heap} {fz : Led} : ∀ {vs ds}, Reps h₀ fz vs ds → ∀ (i : Nat) {v d}, Rep h₀ fz v d → Reps h₀ fz (vs.set i v) (ds.set i d)
  | _, _, .nil, i, _, _, h => by simpa using Reps.nil
  | _, _, .cons _ r, 0, _, _, h => by simpa using Reps.cons h r
  | _, _, .cons g r, i + 1, _, _, h => by simpa using Reps.cons g (r.set i h)

/-! to the library's reading -/
mutual
theorem Rep.reads {h₀ h : Heap} {fz : Led} (hz : ∀ a o, Zn h₀ fz a o → h.get? a = some o) : ∀ {v d}, Rep h₀ fz v d → ∃ as, Reads h v d.py as
  | _, _, .none => ⟨_, by rw [D.py]; exact .none⟩
  | _, _, .bool b => ⟨_, by rw [D.py]; exact .bool b⟩
  | _, _, .int i t => ⟨_, by rw [D.py]; exact .int i t⟩
  | _, _, .tup z c e _ r => by
    obtain ⟨as, ra⟩ := Reps.reads hz r
    exact ⟨_, by rw [D.py]; exact .tuple (hz _ _ z) c e ra⟩
  | _, _, .lst z c e _ r => by
    obtain ⟨as, ra⟩ := Reps.reads hz r
    exact ⟨_, by rw [D.py]; exact .list (hz _ _ z) c e ra⟩
theorem Reps.reads {h₀ h : Heap} {fz : Led} (hz : ∀ a o, Zn h₀ fz a o → h.get? a = some o) : ∀ {vs ds}, Reps h₀ fz vs ds → ∃ as, ReadsAll h vs (pys ds) as
  | _, _, .nil => ⟨_, by rw [pys]; exact .nil⟩
  | _, _, .cons g r => by
    obtain ⟨as, ra⟩ := Rep.reads hz g
    obtain ⟨bs, rb⟩ := Reps.reads hz r
    exact ⟨_, by rw [pys]; exact .cons ra rb⟩
end

mutual
theorem canLay_py : ∀ d : D, (d.py).canLay0 = true
  | .none => by rw [D.py]; rfl
  | .bool b => by rw [D.py]; rfl
  | .int i => by rw [D.py]; rfl
  | .tup l => by rw [D.py]; exact canLays_py l
  | .lst l => by rw [D.py]; exact canLays_py l
theorem canLays_py : ∀ l : List D, PyData.canLayAll0 (pys l) = true
  | [] => by rw [pys]; rfl
  | d :: r => by rw [pys, PyData.canLayAll0, canLay_py d, canLays_py r]; rfl
end
mutual
theorem dep_py : ∀ d : D, (d.py).depth = d.dep
  | .none => by rw [D.py, D.dep]; rfl
  | .bool b => by rw [D.py, D.dep]; rfl
  | .int i => by rw [D.py, D.dep]; rfl
  | .tup l => by rw [D.py, D.dep, PyData.depth, deps_py l]
  | .lst l => by rw [D.py, D.dep, PyData.depth, deps_py l]
theorem deps_py : ∀ l : List D, PyData.depthAll (pys l) = deps l
  | [] => by rw [pys, deps]; rfl
  | d :: r => by rw [pys, PyData.depthAll, dep_py d, deps_py r, deps]
end
theorem shaped_py {d : D} (h : d.dep ≤ 60) : SeqAt.shaped d.py = true := by
  unfold SeqAt.shaped
  rw [canLay_py, dep_py]
  simp only [Bool.true_and, decide_eq_true_eq]
  (first | lia | omega)
theorem eqD_refl (d : D) : eqD d d = true := SeqAt.eqv_refl _ (canLay_py d)

/-! ## the ledger -/
noncomputable def Off (add led : Led) : Prop := ∀ p ∈ add, ∀ q ∈ led, p.1 ≠ q.1

structure Lg0 (h₀ : Heap) (L : Addr) (m : Str → Option Value) (fix fz : Led) (h : Heap) : Prop where
  F : Fr h₀ L h m
  N : News h₀ L h (fix ++ fz)
  nd : (fix.map (·.1)).Nodup
  dj : Off fix fz

theorem Off.append {a b c : Led} (h1 : Off a c) (h2 : Off b c) : Off (a ++ b) c := fun p hp q hq => (List.mem_append.mp hp).elim (fun h => h1 p h q hq) fun h => h2 p h q hq
theorem Off.nil {c : Led} : Off [] c := fun _ h => nomatch h
theorem Off.sub {a c c' : Led} (h : Off a c) (hs : ∀ p ∈ c', p ∈ c) : Off a c' := fun p hp q hq => h p hp q (hs q hq)
theorem Off.left {a a' c : Led} (h : Off a c) (hs : ∀ p ∈ a', p ∈ a) : Off a' c := fun p hp q hq => h p (hs p hp) q hq

section
variable {h₀ h h' : Heap} {L : Addr} {m : Str → Option Value} {fix fz add : Led}

theorem Lg0.z (G : Lg0 h₀ L m fix fz h) {a o} (z : Zn h₀ fz a o) : h.get? a = some o := z.elim (G.F.keep a o) fun hm => (G.N (a, o) (List.mem_append_right _ hm)).1
theorem Lg0.zAll (G : Lg0 h₀ L m fix fz h) {a o} (z : Zn h₀ (fix ++ fz) a o) : h.get? a = some o := z.elim (G.F.keep a o) fun hm => (G.N (a, o) hm).1

/-- the heap has grown; new objects come to the frozen part -/
theorem Lg0.grow (G : Lg0 h₀ L m fix fz h) (hk : ∀ b o, h.get? b = some o → h'.get? b = some o) (hN : News h₀ L h' add) (ho : Off add fix) : Lg0 h₀ L m fix (add ++ fz) h' where
  F := G.F.keeps hk
  N := fun p hp => by
    rcases List.mem_append.mp hp with h1 | h1
    · exact (G.N.grown hk) p (List.mem_append_left _ h1)
    · rcases List.mem_append.mp h1 with h2 | h2
      · exact hN p h2
      · exact (G.N.grown hk) p (List.mem_append_right _ h2)
  nd := G.nd
  dj := fun p hp q hq => by
    rcases List.mem_append.mp hq with h1 | h1
    · exact fun e => ho q h1 p hp e.symm
    · exact G.dj p hp q h1
end

/-! ## the tables of the nested functions' code -/
noncomputable def tabs : List (Addr × Str) := [(44, Str.ofString "_digits2int.<locals>.inner"), (37, Str.ofString "_int2digits.<locals>.inner")]
noncomputable def TabOk (hd fz : Led) (t : Addr × Str) : Prop :=
  ∃ ps, (t.1, tabObj ps) ∈ hd ∧ TriplesOk ps.toList ∧ ∀ pos v, codeAmong pos ps.toList = some v → ∃ c' oc vs tk, v = .ref c' ∧ (c', oc) ∈ fz ∧ oc.data = .fields vs ∧ vs[1]? = some (.str t.2 tk)
noncomputable def TabsOk (hd fz : Led) : Prop := ∀ t ∈ tabs, TabOk hd fz t
theorem TabsOk.sub {hd fz fz' : Led} (h : TabsOk hd fz) (hs : ∀ p ∈ fz, p ∈ fz') : TabsOk hd fz' := fun t ht => by
  obtain ⟨ps, h1, h2, h3⟩ := h t ht
  refine ⟨ps, h1, h2, fun pos v e => ?_⟩
  obtain ⟨c', oc, vs, tk, a, b, c, d⟩ := h3 pos v e
  exact ⟨c', oc, vs, tk, a, hs _ b, c, d⟩
/-- the frame, and the frames that wait behind it -/
structure Stk where
  a : Addr
  up : List (Addr × (Str → Option Value))
noncomputable def UpsOk (L : Stk) (hd : Led) : Prop := ∀ q ∈ L.up, ∃ o, (q.1, o) ∈ hd ∧ LCg.NsObj o q.2
noncomputable def Hid (L : Stk) (hd fz : Led) : Prop := TabsOk hd fz ∧ UpsOk L hd
theorem Hid.sub {L : Stk} {hd fz fz' : Led} (h : Hid L hd fz) (hs : ∀ p ∈ fz, p ∈ fz') : Hid L hd fz' := ⟨h.1.sub hs, h.2⟩
noncomputable def Lg (h₀ : Heap) (L : Stk) (m : Str → Option Value) (fix fz : Led) (h : Heap) : Prop := ∃ hd, Lg0 h₀ L.a m (fix ++ hd) fz h ∧ Hid L hd fz

section
variable {h₀ h h' : Heap} {L : Stk} {m : Str → Option Value} {fix fz add : Led}
theorem Lg.F (G : Lg h₀ L m fix fz h) : Fr h₀ L.a h m := by obtain ⟨hd, G, _⟩ := G; exact G.F
theorem Lg.N (G : Lg h₀ L m fix fz h) : News h₀ L.a h (fix ++ fz) := by
  obtain ⟨hd, G, _⟩ := G
  intro p hp
  refine G.N p ?_
  rcases List.mem_append.mp hp with h | h
  · exact List.mem_append_left _ (List.mem_append_left _ h)
  · exact List.mem_append_right _ h
theorem Lg.nd (G : Lg h₀ L m fix fz h) : (fix.map (·.1)).Nodup := by
  obtain ⟨hd, G, _⟩ := G
  have := G.nd
  rw [List.map_append, List.nodup_append] at this
  exact this.1
theorem Lg.dj (G : Lg h₀ L m fix fz h) : Off fix fz := by
  obtain ⟨hd, G, _⟩ := G
  exact fun p hp => G.dj p (List.mem_append_left _ hp)
theorem Lg.z (G : Lg h₀ L m fix fz h) {a o} (z : Zn h₀ fz a o) : h.get? a = some o := z.elim (G.F.keep a o) fun hm => (G.N (a, o) (List.mem_append_right _ hm)).1
theorem Lg.zAll (G : Lg h₀ L m fix fz h) {a o} (z : Zn h₀ (fix ++ fz) a o) : h.get? a = some o := z.elim (G.F.keep a o) fun hm => (G.N (a, o) hm).1
theorem Lg.fixed (G : Lg h₀ L m fix fz h) {a o} (hm : (a, o) ∈ fix) : h.get? a = some o := (G.N (a, o) (List.mem_append_left _ hm)).1
theorem Lg.keep (G : Lg h₀ L m fix fz h) (hk : ∀ b o, h.get? b = some o → h'.get? b = some o) : Lg h₀ L m fix fz h' := by
  obtain ⟨hd, G, T⟩ := G
  exact ⟨hd, G.grow (add := []) hk News.nil Off.nil, T⟩
theorem Lg.size_fresh (G : Lg h₀ L m fix fz h) : h₀.get? h.objs.size = none := by
  cases e : h₀.get? h.objs.size with
  | none => rfl
  | some o => exact absurd (Heap.lt_size (G.F.keep _ _ e)) (Nat.lt_irrefl _)
/-- one new object -/
theorem Lg.push (G : Lg h₀ L m fix fz h) (o : Obj) (ho : o.isFreed = false) : Lg h₀ L m fix ((h.objs.size, o) :: fz) (h.push o) ∧ Off [(h.objs.size, o)] (fix ++ fz) := by
  have hoff : Off [(h.objs.size, o)] (fix ++ fz) := fun p hp q hq => by
    rw [List.mem_singleton.mp hp]
    exact Nat.ne_of_gt (Heap.lt_size (G.N q hq).1)
  obtain ⟨hd, G, T⟩ := G
  have hoff' : Off [(h.objs.size, o)] (fix ++ hd) := fun p hp q hq => by
    rw [List.mem_singleton.mp hp]
    exact Nat.ne_of_gt (Heap.lt_size (G.N q (List.mem_append_left _ hq)).1)
  refine ⟨⟨hd, G.grow (add := [(h.objs.size, o)]) (fun b x e => Heap.get?_push_of_some _ e) (fun p hp => ?_) hoff', T.sub fun p hp => List.mem_cons_of_mem _ hp⟩, hoff⟩
  have := News.push G.F News.nil o ho
  exact this p hp
/-- a new object that may change -/
theorem Lg.newFix (G : Lg h₀ L m fix fz h) {d : Addr} {o : Obj} (hk : ∀ b o, h.get? b = some o → h'.get? b = some o) (hd : h'.get? d = some o) (hge : h.objs.size ≤ d) : Lg h₀ L m ((d, o) :: fix) fz h' := by
  obtain ⟨hi, G, T⟩ := G
  have hoff : ∀ q ∈ (fix ++ hi) ++ fz, q.1 ≠ d := fun q hq => Nat.ne_of_lt (Nat.lt_of_lt_of_le (Heap.lt_size (G.N q hq).1) hge)
  refine ⟨hi, ⟨G.F.keeps hk, fun p hp => ?_, ?_, fun p hp q hq => ?_⟩, T⟩
  · rcases List.mem_cons.mp hp with rfl | hp
    · refine ⟨hd, Nat.ne_of_gt (Nat.lt_of_lt_of_le G.F.ns.lt hge), ?_⟩
      cases e : h₀.get? d with
      | none => rfl
      | some x => exact absurd (Nat.lt_of_lt_of_le (Heap.lt_size (G.F.keep _ _ e)) hge) (Nat.lt_irrefl _)
    · exact (G.N.grown hk) p hp
  · rw [List.cons_append, List.map_cons, List.nodup_cons]
    refine ⟨fun hm => ?_, G.nd⟩
    obtain ⟨q, hq, e⟩ := List.mem_map.mp hm
    exact hoff q (List.mem_append_left _ hq) e
  · rcases List.mem_cons.mp hp with rfl | hp
    · exact fun e => hoff q (List.mem_append_right _ hq) e.symm
    · exact G.dj p hp q hq
theorem Lg.cast {fix' : Led} (G : Lg h₀ L m fix fz h) (e : fix = fix') : Lg h₀ L m fix' fz h := e ▸ G
end
end
section -- MC
theorem log2_lt_of {n k : Nat} (h : n.log2 < k) : n < 2 ^ k := by
  rcases Nat.eq_zero_or_pos n with e | e
  · subst e; exact Nat.two_pow_pos k
  · exact (Nat.log2_lt (Nat.ne_of_gt e)).mp h
theorem bits_of_log {a : Int} {k : Nat} (h : a.natAbs.log2 < k) : Builtin.Int.intBits a ≤ k := by
  unfold Builtin.Int.intBits
  split <;> (first | lia | omega)
theorem mulOk_of {a b : Int} (h : mulFit a b = true) : IntMulOk a b := by
  unfold mulFit at h
  simp only [Bool.or_eq_true, Bool.and_eq_true, log60, log8, decide_eq_true_eq] at h
  rcases h with (h | h) | ⟨h1, h2⟩
  · exact .of_left (Nat.le_trans (bits_of_log h) (by decide))
  · exact .of_right (Nat.le_trans (bits_of_log h) (by decide))
  · unfold IntMulOk
    have e1 := bits_of_log h1
    have e2 := bits_of_log h2
    have : Builtin.Int.intTooBig ((Builtin.Int.intBits a : Int) + Builtin.Int.intBits b) = false := by
      unfold Builtin.Int.intTooBig
      have h3 : (8000 + 8000 : Int) ≤ ((bitsLine : Nat) : Int) := by decide +kernel
      simp only [decide_eq_false_iff_not, Int.not_lt, gt_iff_lt]
      (first | lia | omega)
    rw [this]
    simp
theorem noPy_of {a b : Int} (h : log8 b = true) : Builtin.divisionGoesByPylong a b = false :=
  PyProof.noPylong_of_log2 (by have := of_decide_eq_true h; (first | lia | omega))

/-! ## what the caller's frame is -/
structure TopX (p : Program) (loose : Heap → Prop) (mean : ExcName → Option Value) (mg mb : Str → Option Value) (h : Heap) : Prop where
  g : h.Ns mainGlobals mg
  b : h.Ns builtinsNs mb
  nolimit : h.NoLimit
  fn : ∀ d ∈ recsOf p, ∃ a o pm code doc, mg d.name = some (.ref a) ∧ h.get? a = some o ∧ o.data = .func (docDef d.name d.params d.body d.scope pm code doc) ∧ h.CodeRec code d.name
  builtins : ∀ x : Str, x ≠ "__name__" → mb x = bootBuiltins x
  top : ∃ p' l', Top p' l' mean mg mb h
  ex : loose h
  mono : ∀ h h' : Heap, (∀ b o, h.get? b = some o → h'.get? b = some o) → loose h → loose h'
theorem TopX.keeps {p : Program} {loose : Heap → Prop} {mean : ExcName → Option Value} {mg mb : Str → Option Value} {h h' : Heap} (T : TopX p loose mean mg mb h) (hk : ∀ b o, h.get? b = some o → h'.get? b = some o) : TopX p loose mean mg mb h' where
  g := T.g.keeps hk
  b := T.b.keeps hk
  nolimit := T.nolimit.keeps hk
  fn := fun d hd => let ⟨a, o, pm, code, doc, h1, h2, h3, h4⟩ := T.fn d hd; ⟨a, o, pm, code, doc, h1, hk _ _ h2, h3, h4.keeps hk⟩
  builtins := T.builtins
  top := let ⟨p', l', t⟩ := T.top; ⟨p', l', t.keeps hk⟩
  ex := T.mono _ _ hk T.ex
  mono := T.mono

structure Fx (p : Program) (loose : Heap → Prop) (mean : ExcName → Option Value) (mg mb : Str → Option Value) (A₀ A : Around) (base h₀ : Heap) (outer : List Env) (fenv : Env) (L : Stk) (dep : Nat) : Prop where
  up : outer.map (·.frame) = L.up.map (fun b => some b.1) ∧ ∀ env ∈ outer, env.scope.kind = .function
  T : TopX p loose mean mg mb h₀
  hA : A.frames = some (fenv :: outer)
  hf : fenv.frame = some L.a
  hk : fenv.scope.kind = .function
  hh : A.handled = none
  room : A.depth + dep < recursionLimit
  units : A.units + 10 * dep + 100 < cLine

noncomputable def Post {α : Type} (h₀ : Heap) (L : Stk) (m : Str → Option Value) (fix fz : Led) (s : Shared) (W : Led → α → Prop) (Q : α → Shared → Prop) : Prop :=
  ∀ v h' tk' add, Lg h₀ L m fix (add ++ fz) h' → Off add (fix ++ fz) → W (add ++ fz) v → Q v { s with heap := h', toks := tk' }

noncomputable def RepR (h₀ : Heap) (fix fz : Led) (v : Value) (r : R) : Prop := Rep h₀ (cond r.2 fz (fix ++ fz)) v r.1

theorem RepR.all {h₀ : Heap} {fix fz : Led} {v : Value} {r : R} (x : RepR h₀ fix fz v r) : Rep h₀ (fix ++ fz) v r.1 := by
  obtain ⟨d, b⟩ := r
  cases b
  · exact x
  · exact Rep.sub (fun p hp => List.mem_append_right _ hp) x
theorem RepR.grow {h₀ : Heap} {fix fz : Led} {v : Value} {r : R} (x : RepR h₀ fix fz v r) (add : Led) : RepR h₀ fix (add ++ fz) v r := by
  obtain ⟨d, b⟩ := r
  cases b
  · exact Rep.sub (fun p hp => (List.mem_append.mp hp).elim (fun h => List.mem_append_left _ h) fun h => List.mem_append_right _ (List.mem_append_right _ h)) x
  · exact Rep.sub (fun p hp => List.mem_append_right _ hp) x
theorem RepR.of_atom {h₀ h₁ : Heap} {fix fz fx' fz' : Led} {v : Value} {d : D} {b b' : Bool} (x : RepR h₀ fix fz v (d, b)) (ha : atom d = true) : RepR h₁ fx' fz' v (d, b') := by
  unfold RepR at x ⊢; exact Rep.atom x ha
theorem RepR.int (h₀ : Heap) (fix fz : Led) (i : Int) (t : Tok) (b : Bool) : RepR h₀ fix fz (.int i t) (.int i, b) := Rep.int i t
theorem RepR.bool (h₀ : Heap) (fix fz : Led) (i : Bool) (b : Bool) : RepR h₀ fix fz (.bool i) (.bool i, b) := Rep.bool i

section
variable {prog : Program} {w : World} {A : Around} {E : Value → Shared → Prop} {s : Shared} {h₀ : Heap} {L : Stk} {m : Str → Option Value} {fix fz : Led}

/-- a result that allocates nothing -/
theorem Post.here {α : Type} {W : Led → α → Prop} {Q : α → Shared → Prop} (P : Post h₀ L m fix fz s W Q) (G : Lg h₀ L m fix fz s.heap) {v : α} {tk : Nat} (hw : W fz v) : Q v { s with toks := tk } :=
  P v s.heap tk [] G Off.nil hw
theorem Post.here0 {α : Type} {W : Led → α → Prop} {Q : α → Shared → Prop} (P : Post h₀ L m fix fz s W Q) (G : Lg h₀ L m fix fz s.heap) {v : α} (hw : W fz v) : Q v s :=
  P v s.heap s.toks [] G Off.nil hw
/-- a new list -/
theorem Post.list {W : Led → Value → Prop} {Q : Value → Shared → Prop} (P : Post h₀ L m fix fz s W Q) (G : Lg h₀ L m fix fz s.heap) {o : Obj} {tk : Nat} (ho : o.isFreed = false)
    (hw : W ((s.heap.objs.size, o) :: fz) (.ref s.heap.objs.size)) : Q (.ref s.heap.objs.size) { s with heap := s.heap.push o, toks := tk } := by
  obtain ⟨G', ho'⟩ := G.push o ho
  exact P _ _ tk [(s.heap.objs.size, o)] G' ho' hw

theorem isList_of (G : Lg h₀ L m fix fz s.heap) {v : Value} {l : List D} (r : Rep h₀ (fix ++ fz) v (.lst l)) : ∃ a vs, v = .ref a ∧ s.heap.IsList a vs ∧ vs.size ≤ line24 ∧ Reps h₀ (fix ++ fz) vs.toList l := by
  cases r with
  | lst z c e hs r => exact ⟨_, _, rfl, ⟨_, G.zAll z, c, _, e⟩, hs, r⟩
theorem isTup_of (G : Lg h₀ L m fix fz s.heap) {v : Value} {l : List D} (r : Rep h₀ (fix ++ fz) v (.tup l)) : ∃ a vs, v = .ref a ∧ IsTup s.heap a vs ∧ vs.size ≤ line24 ∧ Reps h₀ (fix ++ fz) vs.toList l := by
  cases r with
  | tup z c e hs r => exact ⟨_, _, rfl, ⟨_, G.zAll z, c, _, e⟩, hs, r⟩

/-- the same, frozen when flagged -/
theorem listR_of (G : Lg h₀ L m fix fz s.heap) {v : Value} {l : List D} {b : Bool} (r : RepR h₀ fix fz v (.lst l, b)) :
    ∃ a vs, v = .ref a ∧ s.heap.IsList a vs ∧ vs.size ≤ line24 ∧ Reps h₀ (cond b fz (fix ++ fz)) vs.toList l := by
  have hz : ∀ a o, Zn h₀ (cond b fz (fix ++ fz)) a o → s.heap.get? a = some o := fun a o z => by
    cases b
    · exact G.zAll z
    · exact G.z z
  unfold RepR at r
  dsimp only at r
  cases r with
  | lst z c e hs r => exact ⟨_, _, rfl, ⟨_, hz _ _ z, c, _, e⟩, hs, r⟩
theorem tupR_of (G : Lg h₀ L m fix fz s.heap) {v : Value} {l : List D} {b : Bool} (r : RepR h₀ fix fz v (.tup l, b)) :
    ∃ a vs, v = .ref a ∧ IsTup s.heap a vs ∧ vs.size ≤ line24 ∧ Reps h₀ (cond b fz (fix ++ fz)) vs.toList l := by
  have hz : ∀ a o, Zn h₀ (cond b fz (fix ++ fz)) a o → s.heap.get? a = some o := fun a o z => by
    cases b
    · exact G.zAll z
    · exact G.z z
  unfold RepR at r
  dsimp only at r
  cases r with
  | tup z c e hs r => exact ⟨_, _, rfl, ⟨_, hz _ _ z, c, _, e⟩, hs, r⟩

/-- items of a flagged sequence, flagged again -/
theorem reps_flag {vs : List Value} {l : List D} {b c : Bool} (r : Reps h₀ (cond b fz (fix ++ fz)) vs l) (h : (b || c) = true) (hc : c = true → allAtom l = true) (fz' : Led) (hs : ∀ p ∈ fz, p ∈ fz') : Reps h₀ fz' vs l := by
  cases b with
  | true => exact r.sub hs
  | false =>
    cases c with
    | true => exact r.atoms (hc rfl)
    | false => cases h

theorem line24_le : line24 ≤ sizeLine := by decide +kernel
theorem line24_fit {n : Nat} (h : n ≤ line24) : (n : Int) < 2 ^ 63 := by
  unfold line24 at h; (first | lia | omega)

/-- a fresh list out of a seqR -/
theorem seqR_post {W : Led → Value → Prop} {Q : Value → Shared → Prop} (G : Lg h₀ L m fix fz s.heap) {l : List D} {f : Bool} {r : R} (e : seqR l f = some r) {vs : List Value}
    (hr : Reps h₀ (cond f fz (fix ++ fz)) vs l) {tk : Nat} {n : Nat} (P : Post h₀ L m fix fz s (fun fz' v => RepR h₀ fix fz' v r) Q) :
    Q (.ref s.heap.objs.size) { s with heap := s.heap.push { cls := .type "list", data := .seq vs.toArray n }, toks := tk } := by
  unfold seqR at e
  split at e
  · rename_i hc
    cases e
    refine P.list G rfl ?_
    have hv := reps_flag (fz' := (s.heap.objs.size, ({ cls := .type "list", data := .seq vs.toArray n } : Obj)) :: fz) hr hc.2 id fun p hp => List.mem_cons_of_mem _ hp
    exact .lst (.inr List.mem_cons_self) rfl rfl (by rw [List.size_toArray, hr.length]; exact hc.1) hv
  · cases e
end
end
section -- MD
open Builtin in
theorem list_extend_any (l : Addr) (items : Array Value) (n : Nat) (b : Addr) (items2 : Array Value) (n2 : Nat) (d : Option Addr) (sl : Array (Option Value)) (hc0 : ¬(!items.isEmpty && Builtin.List.listTooLong (items.size + items2.size)) = true) (hc1 : items.size ≤ sizeLine) (hs2 : items.size + items2.size ≤ sizeLine + 1) :
    Meets (Builtin.«list.extend» ⟨[.ref l, .ref b], []⟩) (fun _ R s => s.heap.get? l = some { cls := .type "list", dict := none, data := .seq items n, slots := #[] } ∧ s.heap.get? b = some { cls := .type "list", dict := d, data := .seq items2 n2, slots := sl } ∧ R (.ok (.ret Value.none)) { s with heap := s.heap.update l (Obj.mapSeq fun x => x ++ items2), toks := s.toks }) :=
  .of_wp fun prog w A R s h => by
    obtain ⟨hp, g, d, tk, os⟩ := s; obtain ⟨hl, hb, h⟩ := h
    have hz' : (items ++ items2).size ≤ sizeLine + 1 := by rw [Array.size_append]; exact hs2
    wp_walk using (wpAny_updateSeq hl rfl (hz := hc1) (_hz' := hz')), wpAny_loadPart' hl, wpAny_loadPart' hb; exact ⟨_, rfl, h⟩

theorem rep_toArray {h₀ : Heap} {fz : Led} {vs : Array Value} {ds : List D} (r : Reps h₀ fz vs.toList ds) (k : Nat) :
    Reps h₀ fz (List.replicate k vs.toList).flatten (List.replicate k ds).flatten := r.flat k

section
variable {prog : Program} {w : World} {A : Around} {E : Value → Shared → Prop} {s : Shared} {h₀ h' : Heap} {L : Stk} {m : Str → Option Value} {fix fz : Led}

theorem Lg0.one {o : Obj} {hd : Led} (G : Lg0 h₀ L.a m (fix ++ hd) fz s.heap) (TT : Hid L hd fz) (F' : Fr h₀ L.a h' m) (N' : News h₀ L.a h' ((s.heap.objs.size, o) :: ((fix ++ hd) ++ fz))) :
    Lg h₀ L m fix ((s.heap.objs.size, o) :: fz) h' ∧ Off [(s.heap.objs.size, o)] (fix ++ fz) := by
  have hoff : Off [(s.heap.objs.size, o)] ((fix ++ hd) ++ fz) := fun p hp q hq => by
    rw [List.mem_singleton.mp hp]
    exact Nat.ne_of_gt (Heap.lt_size (G.N q hq).1)
  refine ⟨⟨hd, ⟨F', fun p hp => N' p ?_, G.nd, fun p hp q hq => ?_⟩, TT.sub fun p hp => List.mem_cons_of_mem _ hp⟩, hoff.sub fun p hp => ?_⟩
  · rcases List.mem_append.mp hp with h | h
    · exact List.mem_cons_of_mem _ (List.mem_append_left _ h)
    · rcases List.mem_cons.mp h with h | h
      · rw [h]; exact List.mem_cons_self
      · exact List.mem_cons_of_mem _ (List.mem_append_right _ h)
  · rcases List.mem_cons.mp hq with h | h
    · rw [h]; exact fun e => hoff _ (List.mem_singleton.mpr rfl) p (List.mem_append_left _ hp) e.symm
    · exact G.dj p hp q h
  · rcases List.mem_append.mp hp with h | h
    · exact List.mem_append_left _ (List.mem_append_left _ h)
    · exact List.mem_append_right _ h

theorem Post.one {W : Led → Value → Prop} {Q : Value → Shared → Prop} {o : Obj} {tk : Nat} {hd : Led} (P : Post h₀ L m fix fz s W Q) (G : Lg0 h₀ L.a m (fix ++ hd) fz s.heap) (TT : Hid L hd fz) (F' : Fr h₀ L.a h' m) (N' : News h₀ L.a h' ((s.heap.objs.size, o) :: ((fix ++ hd) ++ fz)))
    (hw : W ((s.heap.objs.size, o) :: fz) (.ref s.heap.objs.size)) : Q (.ref s.heap.objs.size) { s with heap := h', toks := tk } := by
  obtain ⟨G', ho⟩ := G.one TT F' N'
  exact P _ _ tk [(s.heap.objs.size, o)] G' ho hw

theorem seqR_len {l : List D} {f : Bool} {r : R} (e : seqR l f = some r) : l.length ≤ line24 := by
  unfold seqR at e; split at e
  · rename_i h; exact h.1
  · cases e
theorem seqR_rep {l : List D} {f : Bool} {r : R} {a : Addr} {o : Obj} {n : Nat} (e : seqR l f = some r) {vs : Array Value} (hr : Reps h₀ (cond f fz (fix ++ fz)) vs.toList l) (hc : o.cls = .type "list") (hd : o.data = .seq vs n) :
    RepR h₀ fix ((a, o) :: fz) (.ref a) r := by
  unfold seqR at e
  split at e
  · rename_i hcn
    cases e
    have hv := reps_flag (fz' := (a, o) :: fz) hr hcn.2 id fun p hp => List.mem_cons_of_mem _ hp
    exact .lst (.inr List.mem_cons_self) hc hd (by have := hr.length; rw [Array.length_toList] at this; (first | lia | omega)) hv
  · cases e

theorem reps_and {vs : List Value} {l : List D} {f g : Bool} (r : Reps h₀ (cond f fz (fix ++ fz)) vs l) : Reps h₀ (cond (f && g) fz (fix ++ fz)) vs l := by
  cases f <;> cases g <;> first | exact r | exact r.sub fun p hp => List.mem_append_right _ hp
theorem reps_and' {vs : List Value} {l : List D} {f g : Bool} (r : Reps h₀ (cond g fz (fix ++ fz)) vs l) : Reps h₀ (cond (f && g) fz (fix ++ fz)) vs l := by
  cases f <;> cases g <;> first | exact r | exact r.sub fun p hp => List.mem_append_right _ hp

theorem mul_list_sound {l : Addr} {vs : Array Value} {x : Int} {u : Tok} {ds : List D} {f : Bool} {r : R} {Q : Value → Shared → Prop} (G : Lg h₀ L m fix fz s.heap) (hl : s.heap.IsList l vs) (hr : Reps h₀ (cond f fz (fix ++ fz)) vs.toList ds)
    (hx : x < 2 ^ 24) (hn : ds.length * x.toNat ≤ line24) (hlo : -(2 ^ 63 : Int) ≤ x) (e : seqR (List.replicate x.toNat ds).flatten f = some r)
    (P : Post h₀ L m fix fz s (fun fz' v => RepR h₀ fix fz' v r) Q) : wpAny (model prog w) A (binaryOp .Mult (.ref l) (.int x u)) Q E s := by
  obtain ⟨⟨cls, d, data, sl⟩, ho, hcl, k, hd⟩ := id hl
  simp only at hcl hd
  subst hcl hd
  have hz : vs.size = ds.length := by have := hr.length; simpa using this
  have hsz' : vs.size * x.toNat ≤ 2 ^ 24 := by rw [hz]; exact hn
  refine wpAny_binaryOp_repeat_ref (T := "list") (U := "int") (by decide) ⟨_, ho, rfl⟩ (fun s' => typeIs_int s' x u) noFill_list_mul F.fills_int_mul F.slot_int_rmul repeat_list F.slot_int_index.lookup
    (call_meets F.slot_int_rmul (typeIs_int s x u) F.entry_int_rmul (F.args_int_rmul_2 _ _) (lm_int_rmul_list_any x u l vs k d sl)
      ⟨ho, rfl, ⟨_, ho, rfl⟩, call_meets F.slot_list_mul ⟨_, ho, rfl⟩ F.entry_list_mul (F.args_list_mul_2 _ _)
        (lm_list_mul_any l vs k d sl x u (by simp [Builtin.List.listFitsIndex]; (first | lia | omega)) (by (first | lia | omega)) (by simp [Builtin.List.listTooLong, sizeLine]; (first | lia | omega)))
        ⟨ho, ?_⟩⟩)
  refine P.list (tk := s.toks) G rfl (seqR_rep (fix := fix) e ?_ rfl rfl)
  rw [listMul_foldl_if]
  exact hr.flat _

theorem ii_sound {op : Operator} {x y : Int} {u t : Tok} {r : R} {Q : Value → Shared → Prop} (G : Lg h₀ L m fix fz s.heap) (e : iiR op x y = some r)
    (P : Post h₀ L m fix fz s (fun fz' v => RepR h₀ fix fz' v r) Q) : wpAny (model prog w) A (binaryOp op (.int x u) (.int y t)) Q E s := by
  cases op with
  | Add => cases e; exact add_int (P.here G (RepR.int ..))
  | Sub => cases e; exact sub_int (P.here G (RepR.int ..))
  | Mult =>
    by_cases hm : mulFit x y = true
    · cases (if_pos hm).symm.trans e; exact PyProof.Rows.mul_int (P.here G (RepR.int ..)) (mulOk_of hm)
    · exact no ((if_neg hm).symm.trans e)
  | FloorDiv =>
    by_cases hy : y ≠ 0 ∧ log8 y = true
    · cases (if_pos hy).symm.trans e; exact PyProof.Rows.floordiv_int hy.1 (P.here G (RepR.int ..)) (.inl (noPy_of hy.2))
    · exact no ((if_neg hy).symm.trans e)
  | Mod =>
    by_cases hy : y = 0
    · exact no ((if_pos hy).symm.trans e)
    · cases (if_neg hy).symm.trans e; exact PyProof.Rows.mod_int hy (P.here G (RepR.int ..))
  | Pow =>
    by_cases hy : 0 ≤ y ∧ y ≤ 1000 ∧ log60 x = true
    · cases (if_pos hy).symm.trans e
      refine pow_int_small hy.1 (Int.le_trans hy.2.1 (by decide)) ?_ (P.here G (RepR.int ..))
      exact Nat.lt_of_lt_of_le (log2_lt_of (of_decide_eq_true hy.2.2)) (by decide)
    · exact no ((if_neg hy).symm.trans e)
  | LShift =>
    by_cases hy : 0 ≤ y ∧ y ≤ 100000 ∧ log8 x = true
    · cases (if_pos hy).symm.trans e
      refine lshift_int hy.1 ?_ (P.here G (RepR.int ..))
      have := bits_of_log (of_decide_eq_true hy.2.2)
      have := hy.2.1
      (first | lia | omega)
    · exact no ((if_neg hy).symm.trans e)
  | RShift =>
    by_cases hy : 0 ≤ y
    · cases (if_pos hy).symm.trans e; exact rshift_int hy (P.here G (RepR.int ..))
    · exact no ((if_neg hy).symm.trans e)
  | BitAnd => cases e; exact and_int (P.here G (RepR.int ..))
  | BitXor => cases e; exact xor_int (P.here G (RepR.int ..))
  | _ => exact no e

theorem bop_sound {op : Operator} {a b r : R} {va vb : Value} {Q : Value → Shared → Prop} (G : Lg h₀ L m fix fz s.heap) (ra : RepR h₀ fix fz va a) (rb : RepR h₀ fix fz vb b) (e : bopR op a b = some r)
    (P : Post h₀ L m fix fz s (fun fz' v => RepR h₀ fix fz' v r) Q) : wpAny (model prog w) A (binaryOp op va vb) Q E s := by
  obtain ⟨a, f⟩ := a
  obtain ⟨b, g⟩ := b
  cases a with
  | int x => cases b with
    | int y => cases ra; cases rb; exact ii_sound G e P
    | _ => exact no e
  | lst x => cases b with
    | lst y => cases op with
      | Add =>
        have e : seqR (x ++ y) (f && g) = some r := e
        obtain ⟨a, vs, rfl, hl, hs, hr⟩ := listR_of G ra
        obtain ⟨b, us, rfl, hl2, hs2, hr2⟩ := listR_of G rb
        have hlen := seqR_len e
        obtain ⟨hd, G0, TT⟩ := G
        refine add_arrays G0.F G0.N hl hl2 (fun h' F' N' => P.one G0 TT F' N' (seqR_rep (fix := fix) e ((reps_and hr).append (reps_and' hr2)) rfl rfl)) ?_
        rw [← Array.length_toList, ← Array.length_toList, hr.length, hr2.length, ← List.length_append]
        exact Nat.le_trans hlen line24_le
      | _ => exact no e
    | int k => cases op with
      | Mult =>
        by_cases hk : 0 ≤ k ∧ k < 2 ^ 24 ∧ x.length * k.toNat ≤ line24
        · obtain ⟨a, vs, rfl, hl, hs, hr⟩ := listR_of G ra
          cases rb
          exact mul_list_sound G hl hr hk.2.1 hk.2.2 (Int.le_trans (by decide) hk.1) ((if_pos hk).symm.trans e) P
        · exact no ((if_neg hk).symm.trans e)
      | _ => exact no e
    | _ => exact no e
  | _ => exact no e
end
end
section -- ME
theorem IntsAre_of {h₀ : Heap} {fz : Led} : ∀ {vs : List Value} {ds : List D} {ns : List Int}, Reps h₀ fz vs ds → intsOf ds = some ns → IntsAre vs ns
  | _, _, _, .nil, e => by simp [intsOf] at e; subst e; exact .nil
  | _, _, _, .cons h r, e => by
    cases h with
    | int i t =>
      simp only [intsOf, Option.map_eq_some_iff] at e
      obtain ⟨ns, e, rfl⟩ := e
      exact .cons i t (IntsAre_of r e)
    | none => simp [intsOf] at e
    | bool => simp [intsOf] at e
    | tup => simp [intsOf] at e
    | lst => simp [intsOf] at e

theorem minI_le : ∀ (r : List Int) (a : Int), (∀ x, x ∈ a :: r → r.foldl (fun m x => if x < m then x else m) a ≤ x) ∧ r.foldl (fun m x => if x < m then x else m) a ∈ a :: r
  | [], a => by simp
  | b :: r, a => by
    rw [List.foldl_cons]
    obtain ⟨h1, h2⟩ := minI_le r (if b < a then b else a)
    by_cases hb : b < a
    · simp only [hb, if_true] at h1 h2 ⊢
      refine ⟨fun x hx => ?_, ?_⟩
      · rcases List.mem_cons.mp hx with rfl | hx
        · have := h1 b (List.mem_cons_self); (first | lia | omega)
        · exact h1 x hx
      · exact List.mem_cons_of_mem _ h2
    · simp only [hb, if_false] at h1 h2 ⊢
      refine ⟨fun x hx => ?_, ?_⟩
      · rcases List.mem_cons.mp hx with rfl | hx
        · exact h1 x (List.mem_cons_self)
        · rcases List.mem_cons.mp hx with rfl | hx
          · have := h1 a (List.mem_cons_self); (first | lia | omega)
          · exact h1 x (List.mem_cons_of_mem _ hx)
      · rcases List.mem_cons.mp h2 with h | h
        · rw [h]; exact List.mem_cons_self
        · exact List.mem_cons_of_mem _ (List.mem_cons_of_mem _ h)
theorem minI_eq {ns : List Int} {k M : Int} (e : minI ns = some k) (hm : M ∈ ns) (hl : ∀ a, a ∈ ns → M ≤ a) : M = k := by
  cases ns with
  | nil => cases e
  | cons a r =>
    simp only [minI, Option.some.injEq] at e
    obtain ⟨h1, h2⟩ := minI_le r a
    rw [e] at h1 h2
    have := h1 M hm
    have := hl k h2
    (first | lia | omega)

section
variable {prog : Program} {w : World} {A : Around} {E : Value → Shared → Prop} {s : Shared} {h₀ h' : Heap} {L : Stk} {m : Str → Option Value} {fix fz : Led}

theorem truth_sound {a : R} {b : Bool} {v : Value} {Q : Bool → Shared → Prop} (G : Lg h₀ L m fix fz s.heap) (ra : RepR h₀ fix fz v a) (e : truthD a.1 = some b) (h : ∀ tk, Q b { s with toks := tk }) :
    wpAny (model prog w) A (truthy v) Q E s := by
  obtain ⟨d, f⟩ := a
  cases d with
  | none => cases ra; cases e; exact truthy_none (h s.toks)
  | bool c => cases ra; cases e; exact wpAny_truthy_bool (h s.toks)
  | int i => cases ra; cases e; exact truthy_int (h s.toks)
  | tup l => cases e
  | lst l =>
    cases e
    obtain ⟨a, vs, rfl, hl, hs, hr⟩ := listR_of G ra
    refine wpAny_truthy_list hl (line24_fit hs) ?_
    have : vs.isEmpty = l.isEmpty := by
      have := hr.length
      rw [Array.length_toList] at this
      cases l with
      | nil => simpa [Array.isEmpty] using this
      | cons x r => simp [Array.isEmpty, this]
    rw [this]
    exact h _

theorem uop_sound {op : UnaryOp} {a r : R} {va : Value} {Q : Value → Shared → Prop} (G : Lg h₀ L m fix fz s.heap) (ra : RepR h₀ fix fz va a) (e : uopR op a = some r)
    (P : Post h₀ L m fix fz s (fun fz' v => RepR h₀ fix fz' v r) Q) : wpAny (model prog w) A (unaryOp op va) Q E s := by
  obtain ⟨d, f⟩ := a
  cases op with
  | Not =>
    obtain ⟨b, e', rfl⟩ := Option.map_eq_some_iff.mp (show (truthD d).map (fun b => ((.bool (!b), true) : R)) = some r from e)
    exact not_value (truth_sound G ra e' fun tk => P.here G (RepR.bool ..))
  | USub => cases d with
    | int x => cases e; cases ra; exact neg_int (P.here G (RepR.int ..))
    | _ => exact no e
  | Invert => cases d with
    | int x => cases e; cases ra; exact invert_int (P.here G (RepR.int ..))
    | _ => exact no e
  | _ => exact no e

theorem il_sound {op : CmpOp} {a b : R} {c : Bool} {va vb : Value} {Q : Value → Shared → Prop} (ra : RepR h₀ fix fz va a) (rb : RepR h₀ fix fz vb b) (e : ilR op a.1 b.1 = some c)
    (h : Q (.bool c) s) : wpAny (model prog w) A (compareOp op va vb) Q E s := by
  obtain ⟨a, f⟩ := a
  obtain ⟨b, g⟩ := b
  cases a with
  | int x => cases b with
    | int y =>
      cases ra; cases rb
      cases op with
      | Lt => cases e; exact lt_int h
      | LtE => cases e; exact le_int h
      | Gt => cases e; exact PyProof.Rows.gt_int h
      | GtE => cases e; exact ge_int h
      | _ => exact no e
    | _ => exact no e
  | _ => exact no e
theorem cmp_sound {op : CmpOp} {a b : R} {c : Bool} {va vb : Value} {Q : Value → Shared → Prop} (G : Lg h₀ L m fix fz s.heap) (hu : A.units + 64 < cLine) (ra : RepR h₀ fix fz va a) (rb : RepR h₀ fix fz vb b) (e : cmpR op a b = some c)
    (h : Q (.bool c) s) : wpAny (model prog w) A (compareOp op va vb) Q E s := by
  cases op with
  | Eq =>
    by_cases hd : a.1.dep ≤ 60 ∧ b.1.dep ≤ 60
    · cases (if_pos hd).symm.trans e
      obtain ⟨as, r1⟩ := Rep.reads (h := s.heap) (fun a o => G.zAll) ra.all
      obtain ⟨bs, r2⟩ := Rep.reads (h := s.heap) (fun a o => G.zAll) rb.all
      exact SeqAt.compareEq_shaped r1 r2 (shaped_py hd.1) (shaped_py hd.2) hu h
    · exact no ((if_neg hd).symm.trans e)
  | NotEq =>
    by_cases hd : a.1.dep ≤ 60 ∧ b.1.dep ≤ 60
    · cases (if_pos hd).symm.trans e
      obtain ⟨as, r1⟩ := Rep.reads (h := s.heap) (fun a o => G.zAll) ra.all
      obtain ⟨bs, r2⟩ := Rep.reads (h := s.heap) (fun a o => G.zAll) rb.all
      exact SeqAt.compareNe_shaped r1 r2 (shaped_py hd.1) (shaped_py hd.2) hu h
    · exact no ((if_neg hd).symm.trans e)
  | _ => exact il_sound ra rb e h

theorem idx_item {vs : Array Value} {l : List D} {b : Bool} {k : Int} {r : R} (hr : Reps h₀ (cond b fz (fix ++ fz)) vs.toList l)
    (e : (l[(if k < 0 then k + l.length else k).toNat]?).bind (fun d => if (b || atom d) = true then some (d, true) else none) = some r) :
    ∃ v, vs.toList[(if k < 0 then k + l.length else k).toNat]? = some v ∧ RepR h₀ fix fz v r := by
  obtain ⟨d, hd, e⟩ := Option.bind_eq_some_iff.mp e
  obtain ⟨v, hv, hrep⟩ := hr.get _ hd
  split at e
  · rename_i hc
    cases e
    refine ⟨v, hv, ?_⟩
    cases b with
    | true => exact hrep
    | false => exact Rep.atom hrep (by simpa using hc)
  · cases e

theorem idx_sound {value slice : Expr} {a r : R} {k : Int} {u : Tok} {va : Value} {Q : Value → Shared → Prop} (G : Lg h₀ L m fix fz s.heap) (ra : RepR h₀ fix fz va a) (e : idxD a k = some r)
    (hns : ∀ lo hi st p, slice ≠ .Slice lo hi st p)
    (P : Post h₀ L m fix fz s (fun fz' v => RepR h₀ fix fz' v r) Q) : wpAny (model prog w) A (subscriptTail value slice va (.int k u)) Q E s := by
  have hs1 : ∀ o, subscripted slice false o (.int k u) = operate [o, .int k u] (getItem o (.int k u)) := fun o => by
    cases slice <;> first | rfl | exact absurd rfl (hns _ _ _ _)
  have tail : ∀ {T id : String} {o : Value}, s.TypeIs o T → typeLookup (.type T) "__getitem__" = pure (some (.builtin id)) → wpAny (model prog w) A (getItem o (.int k u)) Q E s → wpAny (model prog w) A (subscriptTail value slice o (.int k u)) Q E s := by
    intro T id o hT hl h
    refine kba_turn (value' := PySem.Expr.Name (PySem.Str.ofString "_") ⟨0, 0, 0, 0⟩) (fun _ => rfl) ?_
    exact subscriptTail_builtin hT hl h (hs1 o) (fun _ => rfl)
  obtain ⟨d, f⟩ := a
  cases d with
  | lst l =>
    have e : (if -(l.length : Int) ≤ k ∧ k < l.length then (l[(if k < 0 then k + l.length else k).toNat]?).bind fun d => if (f || atom d) = true then some (d, true) else none else none) = some r := e
    obtain ⟨a, vs, rfl, hl, hs, hr⟩ := listR_of G ra
    have hlen := hr.length
    rw [Array.length_toList] at hlen
    have hfit := line24_fit hs
    split at e
    · rename_i hk
      obtain ⟨v, hv, hrep⟩ := idx_item (fix := fix) hr e
      by_cases hneg : k < 0
      · rw [if_pos hneg] at hv
        exact tail hl.typeIs list_getitem_lookup (wpAny_getItem_list_neg hl hneg (by rw [hlen]; exact hk.1) (by (first | lia | omega)) (by rw [hlen]; simpa using hv) (P.here0 G hrep))
      · rw [if_neg hneg] at hv
        exact tail hl.typeIs list_getitem_lookup (wpAny_getItem_list hl (by (first | lia | omega)) (by (first | lia | omega)) (by simpa using hv) (P.here0 G hrep))
    · cases e
  | tup l =>
    have e : (if -(l.length : Int) ≤ k ∧ k < l.length then (l[(if k < 0 then k + l.length else k).toNat]?).bind fun d => if (f || atom d) = true then some (d, true) else none else none) = some r := e
    obtain ⟨a, vs, rfl, hl, hs, hr⟩ := tupR_of G ra
    have hlen := hr.length
    rw [Array.length_toList] at hlen
    have hfit := line24_fit hs
    split at e
    · rename_i hk
      obtain ⟨v, hv, hrep⟩ := idx_item (fix := fix) hr e
      refine tail hl.typeIs slot_tuple_getitem.lookup (getItem_tuple (j := (if k < 0 then k + l.length else k).toNat) hl (by (first | lia | omega)) (by (first | lia | omega)) ?_ (by simpa using hv) (P.here0 G hrep))
      by_cases hneg : k < 0
      · rw [if_pos hneg, hlen]; exact seqIndex_neg hneg hk.1
      · rw [if_neg hneg, hlen]; exact seqIndex_of (by (first | lia | omega)) hk.2
    · cases e
  | _ => exact no e

noncomputable def partV : Option Int → Value → Prop
  | none, v => v = .none
  | some i, v => ∃ t, v = .int i t
theorem partV.is {k : Option Int} {v : Value} (h : partV k v) : IsPart v k := by
  cases k with
  | none => rw [show v = .none from h]; exact .none
  | some i => obtain ⟨t, rfl⟩ := h; exact .int i t

theorem pick_reps {vs : Array Value} {l : List D} {fz : Led} (hr : Reps h₀ fz vs.toList l) (lo hi st : Option Int) : Reps h₀ fz (slicePick vs lo hi st).toList (pickD l lo hi st) := by
  have e : (slicePick vs lo hi st).toList = (sliceRange (sliceBounds lo hi st l.length).1 (sliceBounds lo hi st l.length).2.1 (sliceBounds lo hi st l.length).2.2).filterMap (vs.toList[·]?) := by
    have := hr.length
    rw [Array.length_toList] at this
    simp [slicePick, this]
  rw [e]
  exact hr.places _
end
end
section -- MF
section
variable {prog : Program} {w : World} {A : Around} {E : Value → Shared → Prop} {s : Shared} {h₀ h' : Heap} {L : Stk} {m : Str → Option Value} {fix fz : Led}

theorem Post.keep {α : Type} {W : Led → α → Prop} {Q : α → Shared → Prop} (P : Post h₀ L m fix fz s W Q) (G : Lg h₀ L m fix fz s.heap) {v : α} {tk : Nat} (hk : ∀ b o, s.heap.get? b = some o → h'.get? b = some o) (hw : W fz v) : Q v { s with heap := h', toks := tk } :=
  P v h' tk [] (G.keep hk) Off.nil hw

theorem built_sound {g : Str} {ds : List D} {d : D} {vs : List Value} {Q : Value → Shared → Prop} (hh : A.handled = none) (G : Lg h₀ L m fix fz s.heap) (hr : Reps h₀ (fix ++ fz) vs ds) (e : builtD g ds = some (some d))
    (P : Post h₀ L m fix fz s (fun fz' v => RepR h₀ fix fz' v (d, true)) Q) :
    ∃ id, bootBuiltins g = some (.builtin id) ∧ wpAny (model prog w) A (call (.builtin id) vs) Q E s := by
  unfold builtD at e
  split at e
  · rename_i hg
    subst hg
    simp only [Option.some.injEq] at e
    split at e
    · cases e
      cases hr with | cons h hr => cases hr; obtain ⟨a, us, rfl, hl, hs, hr⟩ := isList_of G h
                                   refine ⟨"len", boot_len, PyProof.Rows.len_list hl (line24_fit hs) ?_⟩
                                   have := hr.length
                                   rw [Array.length_toList] at this
                                   rw [this]
                                   exact P.here G (RepR.int ..)
    · cases e
  · split at e
    · rename_i _ hg
      subst hg
      simp only [Option.some.injEq] at e
      split at e
      · cases e
        cases hr with | cons h hr => cases hr; cases h; exact ⟨"abs", boot_abs, call_abs_int fun u tk => P.here G (RepR.int ..)⟩
      · cases e
    · split at e
      · rename_i _ _ hg
        subst hg
        simp only [Option.some.injEq] at e
        split at e
        · simp only [Option.map_eq_some_iff] at e
          obtain ⟨ns, hn, rfl⟩ := e
          cases hr with | cons h hr => cases hr; obtain ⟨a, us, rfl, hl, hs, hr⟩ := isList_of G h
                                       have hi := IntsAre_of hr hn
                                       obtain ⟨xs, ex⟩ := hi.allInts.items
                                       have ex' : us = intItems xs := by simpa using ex
                                       refine ⟨"sum", boot_sum, PySem.sum_intListG hh (xs := xs) (by rw [← ex']; exact hl) fun h' tk t' hk => ?_⟩
                                       have hsum : preSum (numAt xs) xs.size = ns.sum := by
                                         rw [preSum_eq, List.take_of_length_le (by simp), ← nums_intItems, ← ex', hi.numsOf]
                                       rw [hsum]
                                       exact P.keep G hk (RepR.int ..)
        · cases e
      · split at e
        · rename_i _ _ _ hg
          subst hg
          simp only [Option.some.injEq] at e
          split at e
          · simp only [Option.map_eq_some_iff, Option.bind_eq_some_iff] at e
            obtain ⟨k, ⟨ns, hn, hk⟩, rfl⟩ := e
            cases hr with | cons h hr => cases hr; obtain ⟨a, us, rfl, hl, hs, hr⟩ := isList_of G h
                                         have hi := IntsAre_of hr hn
                                         have hne : 0 < ns.length := by
                                           cases ns with
                                           | nil => cases hk
                                           | cons => simp
                                         obtain ⟨hd, G0, TT⟩ := G
                                         refine ⟨"min", boot_min, min_list_N (vs := us.toList) hh G0.F G0.N (by simpa using hl) hi hne fun h' M t tk F' N' hM hall => ?_⟩
                                         rw [minI_eq hk hM hall]
                                         exact P _ _ _ [] ⟨hd, ⟨F', N', G0.nd, G0.dj⟩, TT⟩ Off.nil (RepR.int ..)
          · cases e
        · split at e
          · rename_i _ _ _ _ hg
            subst hg
            simp only [Option.some.injEq] at e
            split at e
            · split at e
              · rename_i hb
                cases e
                cases hr with | cons h1 hr => cases hr with | cons h2 hr => cases hr; cases h1; cases h2
                                                                            refine ⟨"divmod", boot_divmod, divmod_int hb.1 ?_ (.inl (noPy_of hb.2))⟩
                                                                            refine P.list G rfl ?_
                                                                            exact .tup (.inr List.mem_cons_self) rfl rfl (by show 2 ≤ line24; decide) (.cons (.int _ _) (.cons (.int _ _) .nil))
              · cases e
            · cases e
          · cases e
end
end
section -- MG
/-! ## changing one fixed object -/
section
variable {h₀ h h' : Heap} {L : Addr} {m : Str → Option Value} {fz p1 p2 : Led} {d : Addr} {o o' : Obj}

theorem Lg0.ne_fix (G : Lg0 h₀ L m (p1 ++ (d, o) :: p2) fz h) : (∀ p ∈ p1, p.1 ≠ d) ∧ (∀ p ∈ p2, p.1 ≠ d) ∧ (∀ p ∈ fz, p.1 ≠ d) := by
  have nd := G.nd
  rw [List.map_append, List.map_cons, List.nodup_append] at nd
  obtain ⟨_, n2, n3⟩ := nd
  refine ⟨fun p hp e => ?_, fun p hp e => ?_, fun p hp e => G.dj (d, o) (List.mem_append_right _ List.mem_cons_self) p hp e.symm⟩
  · exact n3 p.1 (List.mem_map_of_mem hp) d List.mem_cons_self e
  · exact (List.nodup_cons.mp n2).1 (List.mem_map.mpr ⟨p, hp, e⟩)

theorem Lg0.replace (G : Lg0 h₀ L m (p1 ++ (d, o) :: p2) fz h) (hk : ∀ b x, b ≠ d → h.get? b = some x → h'.get? b = some x) (hd : h'.get? d = some o') : Lg0 h₀ L m (p1 ++ (d, o') :: p2) fz h' := by
  obtain ⟨n1, n2, n3⟩ := G.ne_fix
  have D := G.N (d, o) (List.mem_append_left _ (List.mem_append_right _ List.mem_cons_self))
  refine ⟨⟨G.F.ns.at' fun x e => hk L x (Ne.symm D.2.1) e, fun b x e => hk b x (fun q => by rw [q, D.2.2] at e; cases e) (G.F.keep b x e), G.F.above⟩, fun p hp => ?_, ?_, fun p hp q hq => ?_⟩
  · have old : ∀ p ∈ p1 ++ (d, o) :: p2 ++ fz, p.1 ≠ d → h'.get? p.1 = some p.2 ∧ p.1 ≠ L ∧ h₀.get? p.1 = none := fun p hp hn => ⟨hk _ _ hn (G.N p hp).1, (G.N p hp).2⟩
    rcases List.mem_append.mp hp with hp | hp
    · rcases List.mem_append.mp hp with hp | hp
      · exact old p (List.mem_append_left _ (List.mem_append_left _ hp)) (n1 p hp)
      · rcases List.mem_cons.mp hp with rfl | hp
        · exact ⟨hd, D.2⟩
        · exact old p (List.mem_append_left _ (List.mem_append_right _ (List.mem_cons_of_mem _ hp))) (n2 p hp)
    · exact old p (List.mem_append_right _ hp) (n3 p hp)
  · have := G.nd
    rwa [List.map_append, List.map_cons] at this ⊢
  · rcases List.mem_append.mp hp with hp | hp
    · exact G.dj p (List.mem_append_left _ hp) q hq
    · rcases List.mem_cons.mp hp with rfl | hp
      · exact fun e => n3 q hq e.symm
      · exact G.dj p (List.mem_append_right _ (List.mem_cons_of_mem _ hp)) q hq

/-- the frame's own names change -/
theorem Lg0.frame {m' : Str → Option Value} {fix : Led} (G : Lg0 h₀ L m fix fz h) (hs : Heap.SameBut L h h') (hn : h'.Ns L m') : Lg0 h₀ L m' fix fz h' :=
  ⟨G.F.set hn hs, G.N.set hs, G.nd, G.dj⟩

/-- forget one -/
theorem Lg0.dropFix {fix : Led} (G : Lg0 h₀ L m ((d, o) :: fix) fz h) : Lg0 h₀ L m fix fz h :=
  ⟨G.F, fun p hp => G.N p (List.mem_cons_of_mem _ hp), (List.nodup_cons.mp (by have := G.nd; rwa [List.map_cons] at this)).2, fun p hp => G.dj p (List.mem_cons_of_mem _ hp)⟩
/-- a fixed object is frozen -/
theorem Lg0.freeze {fix : Led} (G : Lg0 h₀ L m ((d, o) :: fix) fz h) : Lg0 h₀ L m fix ((d, o) :: fz) h := by
  have nd := G.nd
  rw [List.map_cons, List.nodup_cons] at nd
  refine ⟨G.F, fun p hp => G.N p ?_, nd.2, fun p hp q hq => ?_⟩
  · rcases List.mem_append.mp hp with hp | hp
    · exact List.mem_cons_of_mem _ (List.mem_append_left _ hp)
    · rcases List.mem_cons.mp hp with rfl | hp
      · exact List.mem_cons_self
      · exact List.mem_cons_of_mem _ (List.mem_append_right _ hp)
  · rcases List.mem_cons.mp hq with rfl | hq
    · exact fun e => nd.1 (e ▸ List.mem_map_of_mem hp)
    · exact G.dj p (List.mem_cons_of_mem _ hp) q hq
end


section
variable {h₀ h h' : Heap} {L : Stk} {m : Str → Option Value} {fz p1 p2 : Led} {d : Addr} {o o' : Obj}
theorem Lg.ne_fix (G : Lg h₀ L m (p1 ++ (d, o) :: p2) fz h) : (∀ p ∈ p1, p.1 ≠ d) ∧ (∀ p ∈ p2, p.1 ≠ d) ∧ (∀ p ∈ fz, p.1 ≠ d) := by
  obtain ⟨hd, G, _⟩ := G
  rw [List.append_assoc, List.cons_append] at G
  obtain ⟨a, b, c⟩ := G.ne_fix
  exact ⟨a, fun p hp => b p (List.mem_append_left _ hp), c⟩
theorem Lg.replace (G : Lg h₀ L m (p1 ++ (d, o) :: p2) fz h) (hk : ∀ b x, b ≠ d → h.get? b = some x → h'.get? b = some x) (hd : h'.get? d = some o') : Lg h₀ L m (p1 ++ (d, o') :: p2) fz h' := by
  obtain ⟨hi, G, T⟩ := G
  rw [List.append_assoc, List.cons_append] at G
  refine ⟨hi, ?_, T⟩
  rw [List.append_assoc, List.cons_append]
  exact G.replace hk hd
theorem Lg.frame {m' : Str → Option Value} {fix : Led} (G : Lg h₀ L m fix fz h) (hs : Heap.SameBut L.a h h') (hn : h'.Ns L.a m') : Lg h₀ L m' fix fz h' := by
  obtain ⟨hi, G, T⟩ := G
  exact ⟨hi, G.frame hs hn, T⟩
theorem Lg.dropFix {fix : Led} (G : Lg h₀ L m ((d, o) :: fix) fz h) : Lg h₀ L m fix fz h := by
  obtain ⟨hi, G, T⟩ := G
  exact ⟨hi, Lg0.dropFix G, T⟩
theorem Lg.freeze {fix : Led} (G : Lg h₀ L m ((d, o) :: fix) fz h) : Lg h₀ L m fix ((d, o) :: fz) h := by
  obtain ⟨hi, G, T⟩ := G
  exact ⟨hi, Lg0.freeze G, T.sub fun p hp => List.mem_cons_of_mem _ hp⟩
end

/-! ## the ledger, moved about -/
section
variable {h₀ h h' : Heap} {L : Addr} {m : Str → Option Value} {fix fix' fz a b : Led}

theorem Lg0.perm (G : Lg0 h₀ L m fix fz h) (p : fix.Perm fix') : Lg0 h₀ L m fix' fz h :=
  ⟨G.F, fun q hq => G.N q (by
    rcases List.mem_append.mp hq with h | h
    · exact List.mem_append_left _ (p.mem_iff.mpr h)
    · exact List.mem_append_right _ h), (p.map (·.1)).nodup_iff.mp G.nd, fun q hq r hr => G.dj q (p.mem_iff.mpr hq) r hr⟩
theorem Lg0.drop (G : Lg0 h₀ L m (a ++ b) fz h) : Lg0 h₀ L m b fz h :=
  ⟨G.F, fun q hq => G.N q (by
    rcases List.mem_append.mp hq with h | h
    · exact List.mem_append_left _ (List.mem_append_right _ h)
    · exact List.mem_append_right _ h), by
    have := G.nd
    rw [List.map_append, List.nodup_append] at this
    exact this.2.1, fun q hq r hr => G.dj q (List.mem_append_right _ hq) r hr⟩
theorem Lg0.freezes (G : Lg0 h₀ L m (a ++ b) fz h) : Lg0 h₀ L m b (a ++ fz) h ∧ Off a (b ++ fz) := by
  have nd := G.nd
  rw [List.map_append, List.nodup_append] at nd
  have hab : Off a b := fun p hp q hq => nd.2.2 p.1 (List.mem_map_of_mem hp) q.1 (List.mem_map_of_mem hq)
  refine ⟨⟨G.F, fun q hq => G.N q ?_, nd.2.1, fun p hp q hq => ?_⟩, fun p hp q hq => ?_⟩
  · rcases List.mem_append.mp hq with h | h
    · exact List.mem_append_left _ (List.mem_append_right _ h)
    · rcases List.mem_append.mp h with h | h
      · exact List.mem_append_left _ (List.mem_append_left _ h)
      · exact List.mem_append_right _ h
  · rcases List.mem_append.mp hq with h | h
    · exact (hab q h p hp).symm
    · exact G.dj p (List.mem_append_right _ hp) q h
  · rcases List.mem_append.mp hq with h | h
    · exact hab p hp q h
    · exact G.dj p (List.mem_append_left _ hp) q h
end


section
variable {h₀ h h' : Heap} {L : Stk} {m : Str → Option Value} {fix fix' fz a b : Led}
theorem Lg.perm (G : Lg h₀ L m fix fz h) (p : fix.Perm fix') : Lg h₀ L m fix' fz h := by
  obtain ⟨hi, G, T⟩ := G
  exact ⟨hi, G.perm (p.append_right hi), T⟩
theorem Lg.drop (G : Lg h₀ L m (a ++ b) fz h) : Lg h₀ L m b fz h := by
  obtain ⟨hi, G, T⟩ := G
  rw [List.append_assoc] at G
  exact ⟨hi, G.drop, T⟩
theorem Lg.freezes (G : Lg h₀ L m (a ++ b) fz h) : Lg h₀ L m b (a ++ fz) h ∧ Off a (b ++ fz) := by
  obtain ⟨hi, G, T⟩ := G
  rw [List.append_assoc] at G
  obtain ⟨G1, ho⟩ := G.freezes
  exact ⟨⟨hi, G1, T.sub fun p hp => List.mem_append_right _ hp⟩, ho.sub fun p hp => by
    rcases List.mem_append.mp hp with h | h
    · exact List.mem_append_left _ (List.mem_append_left _ h)
    · exact List.mem_append_right _ h⟩
end

/-! ## names -/
structure EnvOk (env : Env) : Prop where
  g : env.globals = mainGlobals
  b : env.builtins = builtinsNs
  k : env.scope.kind = .function
  c : ∀ x, env.kindOf x = some .cell → (env.cells.lookup x).isSome = true

inductive Src (L : Stk) (m : Str → Option Value) (fix : Led) (env : Env) (x : Str) (v : Value) : Prop
  | loc : env.locals = L.a → env.kindOf x = some .local → m x = some v → Src L m fix env x v
  | cell {c : Addr} {o : Obj} : env.kindOf x = some .cell → env.cells.lookup x = some c → (c, o) ∈ fix → o.data = .cell (some v) → Src L m fix env x v
  | cmp {o : Obj} {m2 : Str → Option Value} : (env.locals, o) ∈ fix → LCg.NsObj o m2 → env.kindOf x = some .local → m2 x = some v → Src L m fix env x v

noncomputable def SlotOk (h₀ : Heap) (L : Stk) (m : Str → Option Value) (fix fz : Led) (env : Env) (x : Str) : Slot → Prop
  | .unset => True
  | .val d => ∃ v, Src L m fix env x v ∧ Rep h₀ fz v d
  | .own l => ∃ a vs n, Src L m fix env x (.ref a) ∧ (a, ({ cls := .type "list", data := .seq vs n } : Obj)) ∈ fix ∧ vs.size ≤ line24 ∧ Reps h₀ fz vs.toList l
  | .cel none => True
  | .cel (some d) => ∃ v, Src L m fix env x v ∧ Rep h₀ fz v d
  | .raw _ => True
  | .fre d => (env.kindOf x = some .free ∨ env.kindOf x = some .cell) ∧ (x == ("__classdict__" : Str)) = false ∧ ∃ c o v, env.cells.lookup x = some c ∧ (c, o) ∈ fz ∧ o.data = .cell (some v) ∧ Rep h₀ fz v d

noncomputable def RhoOk (h₀ : Heap) (L : Stk) (m : Str → Option Value) (fix fz : Led) (env : Env) (ρ : Rho) : Prop :=
  ∀ x sl, ρ.lookup x = some sl → (x == ("__debug__" : Str)) = false ∧ SlotOk h₀ L m fix fz env x sl

theorem SlotOk.grow {h₀ : Heap} {L : Stk} {m : Str → Option Value} {fix fz fz' : Led} {env : Env} {x : Str} {sl : Slot} (hs : ∀ p ∈ fz, p ∈ fz') (h : SlotOk h₀ L m fix fz env x sl) : SlotOk h₀ L m fix fz' env x sl := by
  cases sl with
  | unset => trivial
  | val d => obtain ⟨v, s, r⟩ := h; exact ⟨v, s, r.sub hs⟩
  | own l => obtain ⟨a, vs, n, s, hm, hz, r⟩ := h; exact ⟨a, vs, n, s, hm, hz, r.sub hs⟩
  | cel d =>
    cases d with
    | none => trivial
    | some d => obtain ⟨v, s, r⟩ := h; exact ⟨v, s, r.sub hs⟩
  | raw _ => trivial
  | fre d => obtain ⟨h1, h2, c, o, v, h3, h4, h5, r⟩ := h; exact ⟨h1, h2, c, o, v, h3, hs _ h4, h5, r.sub hs⟩
theorem RhoOk.grow {h₀ : Heap} {L : Stk} {m : Str → Option Value} {fix fz : Led} {env : Env} {ρ : Rho} (h : RhoOk h₀ L m fix fz env ρ) (add : Led) : RhoOk h₀ L m fix (add ++ fz) env ρ :=
  fun x sl e => ⟨(h x sl e).1, (h x sl e).2.grow fun p hp => List.mem_append_right _ hp⟩

section
variable {prog : Program} {w : World} {A : Around} {E : Value → Shared → Prop} {s : Shared} {h₀ h' : Heap} {L : Stk} {m : Str → Option Value} {fix fz : Led} {env : Env}

theorem load_sound {M : Model} {x : Str} {v : Value} {Q : Value → Shared → Prop} (O : EnvOk env) (G : Lg h₀ L m fix fz s.heap) (S : Src L m fix env x v) (h : Q v s) : wpAny M A (loadName env x) Q E s := by
  cases S with
  | loc hl hk hm => exact wpAny_loadName_local O.k hk (hl ▸ G.F.ns) hm h
  | cell hk hc hm hd => exact wpAny_loadName_cell O.k hk hc ⟨_, G.fixed hm, hd⟩ h
  | cmp hm hn hk hv => exact wpAny_loadName_local O.k hk (hn.ns (G.fixed hm)) hv h

theorem get_sound {M : Model} {x : Str} {pos : Pos} {ρ : Rho} {r : R} {Q : Value → Shared → Prop} (O : EnvOk env) (G : Lg h₀ L m fix fz s.heap) (H : RhoOk h₀ L m fix fz env ρ) (e : getV ρ x = some r)
    (P : Post h₀ L m fix fz s (fun fz' v => RepR h₀ fix fz' v r) Q) : (x == ("__debug__" : Str)) = false ∧ wpAny M A (loadName env x) Q E s := by
  unfold getV at e
  cases hx : ρ.lookup x with
  | none => rw [hx] at e; exact no e
  | some sl =>
    rw [hx] at e
    have H' := H x _ hx
    cases sl with
    | val d =>
      cases e
      obtain ⟨hd, v, S, hr⟩ := H'
      exact ⟨hd, load_sound O G S (P.here0 G hr)⟩
    | cel d => cases d with
      | none => exact no e
      | some d =>
        cases e
        obtain ⟨hd, v, S, hr⟩ := H'
        exact ⟨hd, load_sound O G S (P.here0 G hr)⟩
    | fre d =>
      cases e
      obtain ⟨hd, hk, hc, c, o, v, h3, h4, h5, hr⟩ := H'
      rcases hk with hk | hk
      · exact ⟨hd, wpAny_loadName_free O.k hk h3 ⟨_, G.z (.inr h4), h5⟩ (P.here0 G hr) hc⟩
      · exact ⟨hd, wpAny_loadName_cell O.k hk h3 ⟨_, G.z (.inr h4), h5⟩ (P.here0 G hr)⟩
    | own l =>
      cases e
      obtain ⟨hd, a, vs, n, S, hm, hz, hr⟩ := H'
      exact ⟨hd, load_sound O G S (P.here0 G (.lst (.inr (List.mem_append_left _ hm)) rfl rfl hz (hr.sub fun p hp => List.mem_append_right _ hp)))⟩
    | _ => exact no e

theorem global_sound {M : Model} {x : Str} {pos : Pos} {v : Value} {mg mb : Str → Option Value} {Q : Value → Shared → Prop} (O : EnvOk env) (G : Lg h₀ L m fix fz s.heap) (hg : h₀.Ns mainGlobals mg) (hb : h₀.Ns builtinsNs mb)
    (hk : env.kindOf x = some .globalImplicit) (hd : (x == ("__debug__" : Str)) = false) (hv : mg x = some v ∨ (mg x = none ∧ mb x = some v)) (h : Q v s) : wpAny M A (eval (.Name x pos) env) Q E s := by
  refine Name_function_global O.k hk ?_ hd
  rcases hv with hv | ⟨h1, h2⟩
  · exact loadGlobal_global (O.g ▸ hg.keeps G.F.keep) hv h
  · exact loadGlobal_builtin (O.g ▸ hg.keeps G.F.keep) h1 (O.b ▸ hb.keeps G.F.keep) h2 h

/-- the whole numbers among the program's names -/
noncomputable def CstOk (mg : Str → Option Value) : Prop := ∀ x i, cstI x = some i → (x == ("__debug__" : Str)) = false ∧ ∃ t, mg x = some (.int i t)

end

/-! ## what the defs give back -/
noncomputable def CallOk (prog : Program) (w : World) (p : Program) (loose : Heap → Prop) (mean : ExcName → Option Value) (mg mb : Str → Option Value) (dep : Nat) (fv : Value) (args : List D) (d : D) : Prop :=
  ∀ (A₀ A : Around) (base h₀ : Heap) (outer : List Env) (fenv : Env) (L : Stk) (m : Str → Option Value) (fix fz : Led) (s : Shared) (vs : List Value) (Q E : Value → Shared → Prop),
    Fx p loose mean mg mb A₀ A base h₀ outer fenv L dep → Lg h₀ L m fix fz s.heap → Reps h₀ fz vs args → Post h₀ L m fix fz s (fun fz' v => Rep h₀ fz' v d) Q →
    wpAny (model prog w) A (call fv vs) Q E s

noncomputable def bnames : List Str := ["len", "abs", "sum", "min", "divmod", "range", "reversed", "iter", "next"].map Str.ofString

structure Gx (prog : Program) (w : World) (p : Program) (loose : Heap → Prop) (mean : ExcName → Option Value) (mg mb : Str → Option Value) (Φ : Phi) (dep : Nat) : Prop where
  phi : ∀ g ds d, Φ g ds = some d → (g == ("__debug__" : Str)) = false ∧ ∃ r ∈ recsOf p, r.name = g ∧ ∀ fv, mg g = some fv → CallOk prog w p loose mean mg mb dep fv ds d
  nob : ∀ g ∈ bnames, mg g = none
  cst : CstOk mg
end
section -- MH
/-! ## trees -/
section
variable {M : Model} {A : Around} {E : Value → Shared → Prop} {s : Shared} {env : Env}

theorem starEach_cons {e : Expr} {rest : List Expr} (h : notStar e = true) : starEach (e :: rest) env = (false, eval e env) :: starEach rest env := by
  cases e <;> first | rfl | cases h
theorem spliced_back_cons {pos : Pos} {e : Expr} {rest : List Expr} {Q : List Value → Shared → Prop} (hn : notStar e = true)
    (h : wpAny M A (eval e env) (fun v s₁ => wpAny M A (spliced (backTo pos (starEach rest env))) (fun vs s₂ => Q (v :: vs) s₂) E s₁) E s) : wpAny M A (spliced (backTo pos (starEach (e :: rest) env))) Q E s := by
  rw [starEach_cons hn]
  exact spliced_cons h
theorem noStars : ∀ {es : List Expr}, es.all notStar = true → ∀ pos, (backTo pos (starEach es env)).any (·.1) = false
  | [], _, _ => rfl
  | e :: r, h, pos => by
    rw [List.all_cons, Bool.and_eq_true] at h
    rw [starEach_cons h.1]
    show (false || (backTo pos (starEach r env)).any (·.1)) = false
    rw [noStars h.2]; rfl
theorem evalArgs_all {f : Value} {pos : Pos} {es : List Expr} {Q : Args → Shared → Prop} (hs : es.all notStar = true)
    (h : wpAny M A (spliced (backTo pos (starEach es env))) (fun vs s' => Q ⟨vs, []⟩ s') E s) : wpAny M A (evalArgs f true (backTo pos (starEach es env)) []) Q E s := by
  cases es with
  | nil =>
    unfold evalArgs
    show wpAny M A (spliced [] >>= _) Q E s
    refine wpAny_bind (wpAny_mono h (fun vs s' h' => ?_) fun _ _ x => x)
    refine wpAny_bind (wpAny_pure ?_)
    refine wpAny_holding ?_
    exact wpAny_bind (wpAny_pure (wpAny_bind (wpAny_pure (wpAny_pure h'))))
  | cons e r =>
    rw [List.all_cons, Bool.and_eq_true] at hs
    rw [starEach_cons hs.1] at h ⊢
    exact evalArgs_plain h

theorem Call_Name_ {g : Str} {gp pos : Pos} {es : List Expr} {Q : Value → Shared → Prop}
    (h : wpAny M A (eval (.Name g gp) env) (fun f s₁ => wpAny M A (callWith pos f [] (backTo pos (starEach es env)) []) Q E s₁) E s) : wpAny M A (eval (.Call (.Name g gp) es [] pos) env) Q E s := by
  show wpAny M A (eval (.Name g gp) env >>= fun f => callWith pos f [] (backTo pos (starEach es env)) []) Q E s
  exact wpAny_bind h

theorem markedEach_eq : ∀ (ops : List CmpOp) (es : List Expr) (ts : List (Sem Value)), es.all notSet = true → markedEach ops es ts = ts
  | [], _, _, _ => rfl
  | [op], [], ts, _ => by unfold markedEach; rfl
  | [op], [e], [], _ => by unfold markedEach; rfl
  | [op], [e], [t], h => by
    show [markedBehindIn op e t] = [t]
    rw [markedBehindIn_of_false]
    cases e <;> first | rfl | cases h
  | [op], [e], t :: t' :: ts, h => by
    show t :: markedEach [] [] (t' :: ts) = _
    rfl
  | [op], e :: e' :: es, [], h => rfl
  | [op], e :: e' :: es, t :: ts, h => by
    show t :: markedEach [] (e' :: es) ts = _
    rfl
  | op :: op' :: ops, [], ts, _ => rfl
  | op :: op' :: ops, e :: es, [], _ => rfl
  | op :: op' :: ops, e :: es, t :: ts, h => by
    have h' : es.all notSet = true := by
      rw [List.all_cons, Bool.and_eq_true] at h; exact h.2
    show t :: markedEach (op' :: ops) es ts = t :: ts
    rw [markedEach_eq (op' :: ops) es ts h']

theorem wpAny_release {vs keep : List Value} {Q : Unit → Shared → Prop} (h : Q () s) : wpAny M A (release vs keep) Q E s := fun Γ p hΓ => by rw [Sem.wp_release]; exact h

theorem testChain_one {pos : Pos} {left : Value} {op : CmpOp} {r : Sem Value} {Q : Bool → Shared → Prop}
    (h : wpAny M A r (fun rv s₁ => wpAny M A (compareOp op left rv) (fun c s₂ => wpAny M A (truthy c) Q E s₂) E s₁) E s) : wpAny M A (testChain pos left [op] [r]) Q E s := by
  show wpAny M A (do
    let rv ← holding [left] r
    standAt pos
    let c ← operate [left, rv] (compareOp op left rv)
    holding [c] (truthy c)) Q E s
  exact wpAny_bind (wpAny_holding (wpAny_mono h (fun rv s₁ h₁ => wpAny_bind (wpAny_standAt (wpAny_bind (wpAny_operating (wpAny_mono h₁ (fun c s₂ h₂ => wpAny_holding h₂) fun _ _ x => x))))) fun _ _ x => x))
theorem testChain_more {pos : Pos} {left : Value} {op op' : CmpOp} {ops : List CmpOp} {r : Sem Value} {rs : List (Sem Value)} {Q : Bool → Shared → Prop}
    (h : wpAny M A r (fun rv s₁ => wpAny M A (compareOp op left rv) (fun c s₂ => wpAny M A (truthy c) (fun b s₃ => if b = true then wpAny M A (testChain pos rv (op' :: ops) rs) Q E s₃ else Q false s₃) E s₂) E s₁) E s) :
    wpAny M A (testChain pos left (op :: op' :: ops) (r :: rs)) Q E s := by
  show wpAny M A (do
    let rv ← holding [left] r
    standAt pos
    let c ← holding [left, rv] (compareOp op left rv)
    release [left, rv] [c]
    if ← holding [c, rv] (truthy c) then testChain pos rv (op' :: ops) rs else pure false) Q E s
  refine wpAny_bind (wpAny_holding (wpAny_mono h (fun rv s₁ h₁ => wpAny_bind (wpAny_standAt (wpAny_bind (wpAny_holding (wpAny_mono h₁ (fun c s₂ h₂ => wpAny_bind (wpAny_release (wpAny_bind (wpAny_holding (wpAny_mono h₂ (fun b s₃ h₃ => ?_) fun _ _ x => x))))) fun _ _ x => x))))) fun _ _ x => x))
  cases b with
  | true => exact h₃
  | false => exact wpAny_pure h₃
theorem isTrue_Compare_ {l : Expr} {ops : List CmpOp} {rs : List Expr} {pos : Pos} {whole : Sem Value} {Q : Bool → Shared → Prop} (hs : rs.all notSet = true)
    (h : wpAny M A (eval l env) (fun a s₁ => wpAny M A (testChain pos a ops (evalEach rs env)) Q E s₁) E s) : wpAny M A (isTrue (.Compare l ops rs pos) env whole) Q E s := by
  show wpAny M A (eval l env >>= fun a => testChain pos a ops (markedEach ops rs (evalEach rs env))) Q E s
  rw [markedEach_eq ops rs _ hs]
  exact wpAny_bind h
theorem wpAny_tests_cons {c : Expr} {rest : List Expr} {Q : Bool → Shared → Prop}
    (h : wpAny M A (isTrue c env (eval c env)) (fun b s₁ => if b = true then wpAny M A (forIn rest true fun c r => if r = true then do let ok ← isTrue c env (eval c env); pure (ForInStep.yield ok) else pure (ForInStep.yield r)) Q E s₁ else Q false s₁) E s) :
    wpAny M A (forIn (c :: rest) true fun c r => if r = true then do let ok ← isTrue c env (eval c env); pure (ForInStep.yield ok) else pure (ForInStep.yield r)) Q E s := by
  have hf : ∀ l : List Expr, (forIn l false fun c r => if r = true then do let ok ← isTrue c env (eval c env); pure (ForInStep.yield ok) else pure (ForInStep.yield r)) = (pure false : Sem Bool) := by
    intro l
    induction l with
    | nil => rfl
    | cons x r ih => rw [List.forIn_cons]; simp only [Bool.false_eq_true, if_false, pure_bind]; exact ih
  rw [List.forIn_cons]
  simp only [if_true]
  refine wpAny_bind (wpAny_bind (wpAny_mono h (fun b s' hb => wpAny_pure ?_) fun _ _ x => x))
  cases b with
  | true => exact hb
  | false => show wpAny M A (forIn rest false _) Q E s'; rw [hf]; exact wpAny_pure hb
end
end
section -- MI
noncomputable def goNames : List String := ["enumerate", "zip", "dict_itemiterator", "dict_reverseitemiterator", "odict_iterator", "itertools.zip_longest", "itertools.pairwise"]

theorem go_sound {prog : Program} {w : World} {A : Around} {E : Value → Shared → Prop} {s : Shared} {tgt : Expr} {I : Addr} {v : Value} {o : Obj} {n : String} {Q : Unit → Shared → Prop}
    (ho : s.heap.get? I = some o) (hc : o.cls = .type n) (hn : goNames.contains n = false) (h : Q () s) : wpAny (model prog w) A (letOwnedTupleGo tgt (.ref I) v) Q E s := by
  have hn' : (["enumerate", "zip", "dict_itemiterator", "dict_reverseitemiterator", "odict_iterator", "itertools.zip_longest", "itertools.pairwise"] : List String).contains n = false := hn
  unfold letOwnedTupleGo
  split
  · cases v with
    | ref a =>
      refine wpAny_bind (wpAny_load ho ?_)
      split
      · rename_i nm vs h1 h2
        rw [hc] at h1
        cases h1
        simp only [hn', Bool.false_and, Bool.false_eq_true, if_false]
        exact wpAny_pure h
      · exact wpAny_pure h
    | _ => exact wpAny_pure h
  · cases v with
    | ref a =>
      refine wpAny_bind (wpAny_load ho ?_)
      split
      · rename_i nm vs h1 h2
        rw [hc] at h1
        cases h1
        simp only [hn', Bool.false_and, Bool.false_eq_true, if_false]
        exact wpAny_pure h
      · exact wpAny_pure h
    | _ => exact wpAny_pure h
  · exact wpAny_pure h

/-- an iterator over the data ds, standing at the start -/
structure Itr (prog : Program) (w : World) (A : Around) (h₀ : Heap) (L : Stk) (fix fz : Led) (h : Heap) (ds : List D) (I : Addr) (fp : List Addr) (P : Nat → Value → Prop) (St : Nat → Heap → Prop) : Prop where
  W : Walks prog w A I fp [I] ds.length P St
  st : St 0 h
  inI : I ∈ fp
  frz : ∀ b ∈ fp, b = I ∨ ∃ o, Zn h₀ fz b o
  item : ∀ i v, i < ds.length → P i v → ∃ d, ds[i]? = some d ∧ Rep h₀ fz v d
  cls : ∀ i h, St i h → ∃ o n, h.get? I = some o ∧ o.cls = .type n ∧ goNames.contains n = false

noncomputable def PostI (prog : Program) (w : World) (A : Around) (h₀ : Heap) (L : Stk) (m : Str → Option Value) (fix fz : Led) (s : Shared) (ds : List D) (Q : Value → Shared → Prop) : Prop :=
  ∀ I oI h' tk' add fp P St, Lg h₀ L m ((I, oI) :: fix) (add ++ fz) h' → Off add (fix ++ fz) → Itr prog w A h₀ L fix (add ++ fz) h' ds I fp P St → ds.length ≤ line24 → Q (.ref I) { s with heap := h', toks := tk' }

section
variable {prog : Program} {w : World} {A : Around} {E : Value → Shared → Prop} {s : Shared} {h₀ h' : Heap} {L : Stk} {m : Str → Option Value} {fix fz : Led}

theorem Itr.carry {h h' : Heap} {ds : List D} {I : Addr} {fp : List Addr} {P : Nat → Value → Prop} {St : Nat → Heap → Prop} {h1 h2 : Heap} {fx1 fx2 fz1 fz2 : Led} {m1 m2 : Str → Option Value} {o : Obj} (T : Itr prog w A h₀ L fix fz h ds I fp P St)
    (G1 : Lg h₀ L m1 fx1 fz1 h1) (G2 : Lg h₀ L m2 fx2 fz2 h2) (z1 : ∀ p ∈ fz, p ∈ fz1) (z2 : ∀ p ∈ fz, p ∈ fz2) (e1 : h1.get? I = some o) (e2 : h2.get? I = some o) {i : Nat} (st : St i h1) : St i h2 := by
  refine T.W.frame _ _ _ st fun b hb x e => ?_
  rcases T.frz b hb with rfl | ⟨o', z⟩
  · rw [e1] at e; cases e; exact e2
  · have a1 := G1.z (z.imp id (z1 _))
    have a2 := G2.z (z.imp id (z2 _))
    rw [a1] at e; cases e; exact a2

theorem list_itr (hh : A.handled = none) (G : Lg h₀ L m fix fz s.heap) {v : Value} {l : List D} (r : Rep h₀ fz v (.lst l)) {Q : Value → Shared → Prop} (P : PostI prog w A h₀ L m fix fz s l Q) :
    wpAny (model prog w) A (pyIter v) Q E s := by
  cases r with
  | lst z c e hs r =>
    rename_i a o vs n
    have ho := G.z z
    have hl : s.heap.IsList a vs := ⟨_, ho, c, _, e⟩
    have hlt := Heap.lt_size ho
    have hlen := r.length
    rw [Array.length_toList] at hlen
    refine wpAny_pyIter_list hl ?_
    have W := Walks.list (prog := prog) (w := w) hh s.heap.objs.size a (Nat.ne_of_lt hlt) vs
    rw [hlen] at W
    refine P s.heap.objs.size _ _ s.toks [] _ _ _ (G.newFix (fun b x e => Heap.get?_push_of_some _ e) (Heap.get?_push_size _ rfl) (Nat.le_refl _)) Off.nil ⟨W, ⟨⟨_, Heap.get?_push_size _ rfl, rfl, rfl⟩, hl.push _⟩, List.mem_cons_self, fun b hb => ?_, fun i v hi hv => ?_, fun i h st => ?_⟩ (by rw [← hlen]; exact hs)
    · rcases List.mem_cons.mp hb with rfl | hb
      · exact .inl rfl
      · rw [List.mem_singleton.mp hb]; exact .inr ⟨_, z⟩
    · exact r.get' i (by simpa using hv)
    · obtain ⟨⟨o', h1, h2, _⟩, _⟩ := st
      exact ⟨o', _, h1, h2, by decide⟩

theorem rev_itr (hh : A.handled = none) (G : Lg h₀ L m fix fz s.heap) {v : Value} {l : List D} (r : Rep h₀ fz v (.lst l)) {Q : Value → Shared → Prop} (P : PostI prog w A h₀ L m fix fz s l.reverse Q) :
    wpAny (model prog w) A (call (.type "reversed") [v]) (fun xv s₁ => wpAny (model prog w) A (pyIter xv) Q E s₁) E s := by
  cases r with
  | lst z c e hs r =>
    rename_i a o vs n
    have ho := G.z z
    have hl : s.heap.IsList a vs := ⟨_, ho, c, _, e⟩
    have hlt := Heap.lt_size ho
    have hlen := r.length
    rw [Array.length_toList] at hlen
    refine call_reversed_list hl ?_
    have hit : (s.heap.push (revObj a ((vs.size : Int) - 1))).IsRevIter s.heap.objs.size a ((vs.size : Int) - 1) := ⟨_, Heap.get?_push_size _ rfl, rfl, rfl⟩
    refine wpAny_pyIter_revIter hit ?_
    have W := Walks.listRev (prog := prog) (w := w) hh s.heap.objs.size a (Nat.ne_of_lt hlt) vs
    have hlr : vs.size = l.reverse.length := by rw [List.length_reverse]; exact hlen
    rw [show Walks prog w A s.heap.objs.size _ _ vs.size = Walks prog w A s.heap.objs.size _ _ l.reverse.length from by rw [hlr]] at W
    refine P s.heap.objs.size _ _ s.toks [] _ _ _ (G.newFix (fun b x e => Heap.get?_push_of_some _ e) (Heap.get?_push_size _ rfl) (Nat.le_refl _)) Off.nil ⟨W, ⟨Nat.zero_le _, by simpa using hit, hl.push _⟩, List.mem_cons_self, fun b hb => ?_, fun i v hi hv => ?_, fun i h st => ?_⟩ (by rw [← hlr]; exact hs)
    · rcases List.mem_cons.mp hb with rfl | hb
      · exact .inl rfl
      · rw [List.mem_singleton.mp hb]; exact .inr ⟨_, z⟩
    · have := r.reverse.get' i (v := v) (by
        rw [List.length_reverse] at hi
        rw [List.getElem?_reverse (by rw [Array.length_toList, hlen]; exact hi)]
        simpa using hv)
      exact this
    · obtain ⟨_, ⟨o', h1, h2, _⟩, _⟩ := st
      exact ⟨o', _, h1, h2, by decide⟩

theorem range_itr (hh : A.handled = none) (G : Lg h₀ L m fix fz s.heap) {r : Addr} {a b c : Int} {t u v : Tok} {ds : List D} (hr : IsRange s.heap r a b c t u v) (e : rangeD a b c = some ds) {Q : Value → Shared → Prop} (P : PostI prog w A h₀ L m fix fz s ds Q) :
    wpAny (model prog w) A (pyIter (.ref r)) Q E s := by
  unfold rangeD at e
  split at e
  · rename_i hc
    cases e
    obtain ⟨_, _, hsm, hn, hz⟩ := hc
    refine wpAny_pyIter_range hr hsm ?_
    generalize hk : (Builtin.Range.rangeSize a b c).toNat = k at *
    have hk' : Builtin.Range.rangeSize a b c = (k : Int) := by (first | lia | omega)
    have W := Walks.range (prog := prog) (w := w) hh s.heap.objs.size a c k
    have hlen : ((List.range k).map fun (i : Nat) => D.int (a + i * c)).length = k := by simp
    rw [show Walks prog w A s.heap.objs.size _ _ k = Walks prog w A s.heap.objs.size _ _ ((List.range k).map fun (i : Nat) => D.int (a + i * c)).length from by rw [hlen]] at W
    refine P s.heap.objs.size _ _ s.toks [] _ _ _ (G.newFix (fun b x e => Heap.get?_push_of_some _ e) (Heap.get?_push_size _ rfl) (Nat.le_refl _)) Off.nil ⟨W, ?_, List.mem_cons_self, fun b hb => .inl (List.mem_singleton.mp hb), fun i v hi hv => ?_, fun i h st => ⟨_, _, st, rfl, by decide⟩⟩ (by rw [hlen]; exact hz)
    · show IsRangeIter _ _ _ _ _
      rw [hk']
      simpa using Heap.get?_push_size _ rfl
    · rw [hlen] at hi
      obtain ⟨t, rfl⟩ := hv
      exact ⟨_, by simp [hi], .int _ _⟩
  · cases e
end
end
section -- MJ
section
variable {prog : Program} {w : World} {A : Around} {E : Value → Shared → Prop} {s : Shared} {h₀ h' : Heap} {L : Stk} {m : Str → Option Value} {fix fz : Led}

theorem Post.next {α : Type} {W : Led → α → Prop} {Q : α → Shared → Prop} {add : Led} {tk' : Nat} (P : Post h₀ L m fix fz s W Q) (ho : Off add (fix ++ fz)) : Post h₀ L m fix (add ++ fz) { s with heap := h', toks := tk' } W Q := by
  intro v h'' tk'' add2 G ho2 hw
  have := P v h'' tk'' (add2 ++ add) (by rw [List.append_assoc]; exact G) (Off.append (ho2.sub fun p hp => by
    rcases List.mem_append.mp hp with h | h
    · exact List.mem_append_left _ h
    · exact List.mem_append_right _ (List.mem_append_right _ h)) ho) (by rw [List.append_assoc]; exact hw)
  exact this
theorem PostI.next {ds : List D} {Q : Value → Shared → Prop} {add : Led} {tk' : Nat} (P : PostI prog w A h₀ L m fix fz s ds Q) (ho : Off add (fix ++ fz)) : PostI prog w A h₀ L m fix (add ++ fz) { s with heap := h', toks := tk' } ds Q := by
  intro I oI h'' tk'' add2 fp PP St G ho2 T hl
  have := P I oI h'' tk'' (add2 ++ add) fp PP St (by rw [List.append_assoc]; exact G) (Off.append (ho2.sub fun p hp => by
    rcases List.mem_append.mp hp with h | h
    · exact List.mem_append_left _ h
    · exact List.mem_append_right _ (List.mem_append_right _ h)) ho) (by rw [List.append_assoc]; exact T) hl
  exact this

/-! ## the judgements -/
variable (prog w A h₀ L)
noncomputable def EvOk (env : Env) (ρ : Rho) (e : Expr) (r : R) : Prop :=
  ∀ m fix fz s (E Q : Value → Shared → Prop), Lg h₀ L m fix fz s.heap → RhoOk h₀ L m fix fz env ρ → Post h₀ L m fix fz s (fun fz' v => RepR h₀ fix fz' v r) Q → wpAny (model prog w) A (eval e env) Q E s
noncomputable def EvsOk (env : Env) (ρ : Rho) (es : List Expr) (p : List D × Bool) : Prop :=
  es.all notStar = true ∧ ∀ pos m fix fz s (E : Value → Shared → Prop) (Q : List Value → Shared → Prop), Lg h₀ L m fix fz s.heap → RhoOk h₀ L m fix fz env ρ →
    Post h₀ L m fix fz s (fun fz' vs => Reps h₀ (cond p.2 fz' (fix ++ fz')) vs p.1) Q → wpAny (model prog w) A (spliced (backTo pos (starEach es env))) Q E s
noncomputable def EvPOk (env : Env) (ρ : Rho) (e : Option Expr) (k : Option Int) : Prop :=
  ∀ m fix fz s (E Q : Value → Shared → Prop), Lg h₀ L m fix fz s.heap → RhoOk h₀ L m fix fz env ρ → Post h₀ L m fix fz s (fun _ v => partV k v) Q → wpAny (model prog w) A (evalPart e env) Q E s
noncomputable def EvTOk (env : Env) (ρ : Rho) (e : Expr) (b : Bool) : Prop :=
  ∀ m fix fz s (E : Value → Shared → Prop) (Q : Bool → Shared → Prop), Lg h₀ L m fix fz s.heap → RhoOk h₀ L m fix fz env ρ → Post h₀ L m fix fz s (fun _ c => c = b) Q → wpAny (model prog w) A (isTrue e env (eval e env)) Q E s
noncomputable def EvCOk (env : Env) (ρ : Rho) (a : R) (ops : List CmpOp) (rs : List Expr) (b : Bool) : Prop :=
  rs.all notSet = true ∧ ∀ pos m fix fz s va (E : Value → Shared → Prop) (Q : Bool → Shared → Prop), Lg h₀ L m fix fz s.heap → RhoOk h₀ L m fix fz env ρ → RepR h₀ fix fz va a → Post h₀ L m fix fz s (fun _ c => c = b) Q →
    wpAny (model prog w) A (testChain pos va ops (evalEach rs env)) Q E s
noncomputable def EvAllOk (env : Env) (ρ : Rho) (es : List Expr) (b : Bool) : Prop :=
  (∀ m fix fz s (E : Value → Shared → Prop) (Q : Bool → Shared → Prop), Lg h₀ L m fix fz s.heap → RhoOk h₀ L m fix fz env ρ → Post h₀ L m fix fz s (fun _ c => c = b) Q → wpAny (model prog w) A (allTrue .And es env) Q E s) ∧
  (∀ m fix fz s (E : Value → Shared → Prop) (Q : Bool → Shared → Prop), Lg h₀ L m fix fz s.heap → RhoOk h₀ L m fix fz env ρ → Post h₀ L m fix fz s (fun _ c => c = b) Q →
    wpAny (model prog w) A (forIn es true fun c r => if r = true then do let ok ← isTrue c env (eval c env); pure (ForInStep.yield ok) else pure (ForInStep.yield r)) Q E s)
noncomputable def EvAnyOk (env : Env) (ρ : Rho) (es : List Expr) (b : Bool) : Prop :=
  ∀ m fix fz s (E : Value → Shared → Prop) (Q : Bool → Shared → Prop), Lg h₀ L m fix fz s.heap → RhoOk h₀ L m fix fz env ρ → Post h₀ L m fix fz s (fun _ c => c = b) Q → wpAny (model prog w) A (allTrue .Or es env) Q E s
noncomputable def EvIOk (env : Env) (ρ : Rho) (e : Expr) (ds : List D) : Prop :=
  ∀ m fix fz s (E Q : Value → Shared → Prop), Lg h₀ L m fix fz s.heap → RhoOk h₀ L m fix fz env ρ → PostI prog w A h₀ L m fix fz s ds Q → wpAny (model prog w) A (eval e env) (fun xv s₁ => wpAny (model prog w) A (pyIter xv) Q E s₁) E s
end

/-! ## comprehensions -/
section
variable {prog : Program} {w : World} {A : Around} {E : Value → Shared → Prop} {R' : Result → Shared → Prop} {s : Shared}

theorem cloop {elt target iter : Expr} {ifs : List Expr} {scope : Scope} {pos : Pos} {it acc : Value} {env : Env} (I : Nat → Shared → Prop)
    (turn : ∀ n s, I n s → wpAny (model prog w) A (pyNext it) (fun r s₁ => match r with
      | none => R' (.ok .next) s₁
      | some v => wpAny (model prog w) A (letOwnedTupleGo target it v) (fun _ s₁' => wpAny (model prog w) A (assign target env v) (fun _ s₂ =>
          wpAny (model prog w) A (forIn ifs true fun c r => if r = true then do let ok ← isTrue c env (eval c env); pure (ForInStep.yield ok) else pure (ForInStep.yield r)) (fun ok s₃ =>
            if ok = true then wpAny (model prog w) A (eval elt env) (fun x s₄ =>
              wpAny (model prog w) A (call (.builtin "list.append") [acc, x]) (fun _ s₅ => ∃ m, m < n ∧ I m s₅) (notedBy (model prog w) A env fun e s' => R' (.error e) s') s₄) (notedBy (model prog w) A env fun e s' => R' (.error e) s') s₃
            else ∃ m, m < n ∧ I m s₃) (notedBy (model prog w) A env fun e s' => R' (.error e) s') s₂) (notedBy (model prog w) A env fun e s' => R' (.error e) s') s₁') (notedBy (model prog w) A env fun e s' => R' (.error e) s') s₁) (notedBy (model prog w) A env fun e s' => R' (.error e) s') s)
    (n : Nat) (h : I n s) : codeAny (model prog w) A (.compLoop (.ListComp elt [⟨target, iter, ifs, 0⟩] scope pos) 0 it acc env) R' s := by
  refine codeAny_loop rfl I (fun n s hI => ?_) n h
  show wpAny _ A ((compTurn (.ListComp elt [⟨target, iter, ifs, 0⟩] scope pos) 0 it acc env).onRaise (fun x => do noteFrame x env; theTreesLotGoes x)) _ _ s
  refine wpAny_noted ?_
  rw [compTurn_list]
  refine wpAny_bind (wpAny_standAt (wpAny_bind (wpAny_mono (turn n s hI) (fun r s₁ h₁ => ?_) fun _ _ h' => h')))
  cases r with
  | none => exact wpAny_pure h₁
  | some v =>
    refine wpAny_bind (wpAny_mono h₁ (fun _ s₁' h₁' => ?_) fun _ _ h' => h')
    refine wpAny_bind (wpAny_mono h₁' (fun _ s₂ h₂ => wpAny_bind (wpAny_mono h₂ (fun ok s₃ h₃ => ?_) fun _ _ h' => h')) fun _ _ h' => h')
    cases ok with
    | false => exact wpAny_pure ⟨rfl, h₃⟩
    | true =>
      exact wpAny_bind (wpAny_bind (wpAny_mono h₃ (fun x s₄ h₄ => wpAny_bind (wpAny_mono h₄ (fun _ s₅ h₅ => wpAny_pure (wpAny_pure ⟨rfl, h₅⟩)) fun _ _ h' => h')) fun _ _ h' => h'))

theorem closure_of {env : Env} {f : Str × NameKind → List (Str × Addr) → Sem (ForInStep (List (Str × Addr)))}
    (hf : ∀ x r, f x r = if (x.2 == NameKind.free) = true then (cellOf env x.1 >>= fun c => pure (ForInStep.yield ((x.1, c) :: r))) else pure (ForInStep.yield r)) :
    ∀ {names : List (Str × NameKind)} (acc : List (Str × Addr)), (∀ x ∈ names, x.2 = .free → (env.cells.lookup x.1).isSome = true) →
    ∃ cl, (forIn names acc f : Sem (List (Str × Addr))) = pure cl ∧
      ∀ n c, env.cells.lookup n = some c → ((n, NameKind.free) ∈ names ∨ acc.lookup n = some c) → cl.lookup n = some c
  | [], acc, _ => ⟨acc, rfl, fun n c _ h => h.elim (fun h => nomatch h) id⟩
  | (x, k) :: r, acc, hn => by
    have hr : ∀ y ∈ r, y.2 = .free → (env.cells.lookup y.1).isSome = true := fun y hy => hn y (List.mem_cons_of_mem _ hy)
    by_cases hk : k = .free
    · subst hk
      obtain ⟨c0, hc0⟩ := Option.isSome_iff_exists.mp (hn (x, .free) List.mem_cons_self rfl)
      obtain ⟨cl, e, hl⟩ := closure_of hf ((x, c0) :: acc) hr
      refine ⟨cl, ?_, fun n c hc h => ?_⟩
      · rw [List.forIn_cons, hf]
        have hco : cellOf env x = pure c0 := by unfold cellOf; rw [hc0]
        simp only [beq_self_eq_true, if_true, hco, pure_bind]
        exact e
      · refine hl n c hc ?_
        by_cases hx : n = x
        · subst hx
          rw [hc0] at hc; cases hc
          exact .inr (by simp)
        · rcases h with h | h
          · rcases List.mem_cons.mp h with h | h
            · cases h; exact absurd rfl hx
            · exact .inl h
          · exact .inr (by rw [List.lookup_cons, beq_eq_false_iff_ne.mpr hx]; exact h)
    · obtain ⟨cl, e, hl⟩ := closure_of hf acc hr
      have hb : (k == NameKind.free) = false := by simpa using hk
      refine ⟨cl, ?_, fun n c hc h => hl n c hc ?_⟩
      · rw [List.forIn_cons, hf]
        simp only [hb, Bool.false_eq_true, if_false, pure_bind]
        exact e
      · rcases h with h | h
        · rcases List.mem_cons.mp h with h | h
          · cases h; exact absurd rfl hk
          · exact .inl h
        · exact .inr h

theorem closureFor_of {env : Env} {sc : Scope} (hn : ∀ x ∈ sc.names, x.2 = .free → (env.cells.lookup x.1).isSome = true) :
    ∃ cl, closureFor sc env = pure cl ∧ ∀ n c, env.cells.lookup n = some c → (n, NameKind.free) ∈ sc.names → cl.lookup n = some c := by
  simp only [closureFor]
  obtain ⟨cl, e, hl⟩ := closure_of (env := env) (f := fun x r => match x with
    | (name, kind) => if (kind == NameKind.free) = true then (do let c ← cellOf env name; pure (ForInStep.yield ((name, c) :: r))) else pure (ForInStep.yield r)) (fun x r => rfl) [] hn
  refine ⟨cl, ?_, fun n c hc h => hl n c hc (.inl h)⟩
  rw [e]
  rfl
end
end
section -- MK
noncomputable abbrev lo (ys : List Value) (n : Nat) : Obj := { cls := .type "list", data := .seq ys.toArray n }

theorem mem_of_lookup' {α : Type} : ∀ {l : List (Str × α)} {x : Str} {a : α}, l.lookup x = some a → (x, a) ∈ l
  | (y, b) :: r, x, a, h => by
    rw [List.lookup_cons] at h
    cases hb : x == y with
    | true => rw [hb] at h; cases h; rw [eq_of_beq hb]; exact List.mem_cons_self
    | false => rw [hb] at h; exact List.mem_cons_of_mem _ (mem_of_lookup' h)

theorem freeRho_lookup {sc : Scope} {ρ : Rho} {x : Str} {sl : Slot} (h : (freeRho sc ρ).lookup x = some sl) : ρ.lookup x = some sl ∧ (∃ d, sl = .cel d) ∧ (x, NameKind.free) ∈ sc.names := by
  have hm := mem_of_lookup' h
  unfold freeRho at hm
  obtain ⟨⟨n, k⟩, hn, e⟩ := List.mem_filterMap.mp hm
  dsimp only at e
  split at e
  · rename_i hk
    have hk' : k = .free := by simpa using hk
    subst hk'
    split at e
    · rename_i d hd
      cases e
      exact ⟨hd, ⟨d, rfl⟩, hn⟩
    · cases e
  · cases e

theorem compScope_local {nm : Names} {sc : Scope} (h : compScopeOk nm sc = true) : ∀ x ∈ sc.names, x.2 = .local → sc.names.lookup x.1 = some .local := by
  intro x hx e
  have := List.all_eq_true.mp h x hx
  obtain ⟨n, k⟩ := x
  dsimp only at e this ⊢
  subst e
  simpa using this
theorem compScope_free {nm : Names} {sc : Scope} (h : compScopeOk nm sc = true) : ∀ x, (x, NameKind.free) ∈ sc.names → nm.lookup x = some .cell ∧ sc.names.lookup x = some .free := by
  intro x hx
  have := List.all_eq_true.mp h _ hx
  simpa using this
theorem compScope_cell {nm : Names} {sc : Scope} (h : compScopeOk nm sc = true) : ∀ x ∈ sc.names, x.2 ≠ .cell := by
  intro x hx e
  have := List.all_eq_true.mp h x hx
  obtain ⟨n, k⟩ := x
  dsimp only at e this
  subst e
  simp at this

theorem lookup_rel_free {nm : Names} : ∀ {names : Names} {x : Str}, names.lookup x = some .free → nm.lookup x = some .cell →
    (names.map fun (n, k) => if (k == NameKind.free && nm.lookup n == some NameKind.cell) = true then (n, NameKind.cell) else (n, k)).lookup x = some .cell
  | [], _, h, _ => by simp at h
  | (n, k) :: r, x, h, hc => by
    rw [List.map_cons, List.lookup_cons]
    rw [List.lookup_cons] at h
    dsimp only
    cases hx : x == n with
    | true =>
      rw [hx] at h
      cases h
      have : x = n := eq_of_beq hx
      subst this
      simp [hc]
    | false =>
      rw [hx] at h
      have e : (x == (if (k == NameKind.free && nm.lookup n == some NameKind.cell) = true then (n, NameKind.cell) else (n, k)).1) = false := by split <;> exact hx
      rw [e]
      exact lookup_rel_free h hc
theorem lookup_rel_other {nm : Names} {κ : NameKind} (hκ : κ ≠ .free) : ∀ {names : Names} {x : Str}, names.lookup x = some κ →
    (names.map fun (n, k) => if (k == NameKind.free && nm.lookup n == some NameKind.cell) = true then (n, NameKind.cell) else (n, k)).lookup x = some κ
  | [], _, h => by simp at h
  | (n, k) :: r, x, h => by
    rw [List.map_cons, List.lookup_cons]
    rw [List.lookup_cons] at h
    dsimp only
    cases hx : x == n with
    | true =>
      rw [hx] at h
      cases h
      have : (κ == NameKind.free) = false := by simpa using hκ
      simp [this, hx]
    | false =>
      rw [hx] at h
      have e : (x == (if (k == NameKind.free && nm.lookup n == some NameKind.cell) = true then (n, NameKind.cell) else (n, k)).1) = false := by split <;> exact hx
      rw [e]
      exact lookup_rel_other hκ h

theorem rel_names {env : Env} {sc : Scope} (hk : env.scope.kind = .function) : (relabel sc env).names = relN env.scope.names sc := by
  unfold relabel relN
  dsimp only
  apply List.map_congr_left
  rintro ⟨n, k⟩ _
  simp [hk, Env.kindOf]

theorem bindT_keys {sc : Scope} {tgt : Expr} {d : D} {bs : Rho} (h : bindT sc tgt d = some bs) : ∀ x sl, bs.lookup x = some sl → sc.names.lookup x = some .local ∧ ∃ d', sl = .val d' := by
  intro x sl hx
  unfold bindT at h
  split at h
  · split at h
    · rename_i hc
      cases h
      rw [List.lookup_cons] at hx
      split at hx
      · rename_i hb
        cases hx
        rw [eq_of_beq hb]; exact ⟨by simpa using hc, _, rfl⟩
      · cases hx
    · cases h
  · split at h
    · rename_i hc
      cases h
      simp only [Bool.and_eq_true] at hc
      rw [List.lookup_cons] at hx
      split at hx
      · rename_i hb
        cases hx
        rw [eq_of_beq hb]; exact ⟨by simpa using hc.1.1, _, rfl⟩
      · rw [List.lookup_cons] at hx
        split at hx
        · rename_i hb
          cases hx
          rw [eq_of_beq hb]; exact ⟨by simpa using hc.1.2, _, rfl⟩
        · cases hx
    · cases h
  · cases h

section
variable {prog : Program} {w : World} {A : Around} {E : Value → Shared → Prop} {s : Shared} {h₀ h' : Heap} {L : Stk} {m : Str → Option Value} {fix fz : Led}

/-- the comprehension's own names, as its dict holds them -/
noncomputable def BsIn (h₀ : Heap) (fz : Led) (m2 : Str → Option Value) (bs : Rho) : Prop := ∀ x d, bs.lookup x = some (.val d) → ∃ v, m2 x = some v ∧ Rep h₀ fz v d

theorem asg_comp (hh : A.handled = none) {env cenv : Env} {sc : Scope} {tgt : Expr} {d : D} {bs : Rho} {v : Value} {p1 p2 : Led} {oC : Obj} {m2 : Str → Option Value} {Q : Unit → Shared → Prop}
    (hcs : cenv.scope.names = relN env.scope.names sc) (hck : cenv.scope.kind = .function) (e : bindT sc tgt d = some bs) (r : Rep h₀ fz v d)
    (G : Lg h₀ L m (p1 ++ (cenv.locals, oC) :: p2) fz s.heap) (hn : LCg.NsObj oC m2)
    (h : ∀ h3 tk3 oC' m3, Lg h₀ L m (p1 ++ (cenv.locals, oC') :: p2) fz h3 → LCg.NsObj oC' m3 → BsIn h₀ fz m3 bs → Q () { s with heap := h3, toks := tk3 }) :
    wpAny (model prog w) A (assign tgt cenv v) Q E s := by
  have hp : (cenv.scope.kind == .class || (cenv.scope.kind == .module && cenv.locals != cenv.globals)) = false := by rw [hck]; rfl
  have kl : ∀ x, sc.names.lookup x = some .local → cenv.kindOf x = some .local := fun x hx => by
    unfold Env.kindOf; rw [hcs]; exact lookup_rel_other (by decide) hx
  have st : ∀ {x : Str} {px : Pos} {u : Value} {s1 : Shared} {oC1 : Obj} {m1 : Str → Option Value} {Q : Unit → Shared → Prop}, sc.names.lookup x = some .local → Lg h₀ L m (p1 ++ (cenv.locals, oC1) :: p2) fz s1.heap → LCg.NsObj oC1 m1 →
      (∀ h3 tk3 oC', Lg h₀ L m (p1 ++ (cenv.locals, oC') :: p2) fz h3 → LCg.NsObj oC' (fun y => if y = x then some u else m1 y) → Q () { s1 with heap := h3, toks := tk3 }) →
      wpAny (model prog w) A (assign (.Name x px) cenv u) Q E s1 := by
    intro x px u s1 oC1 m1 Q hx G1 hn1 hq
    have hC := G1.fixed (List.mem_append_right p1 (List.mem_cons_self (a := (cenv.locals, oC1)) (l := p2)))
    refine wpAny_assign_Name (wpAny_storeName_local (kl x hx) (hn1.ns hC) (fun h3 hn3 hs3 => ?_) hp)
    obtain ⟨oC', heC, hoC⟩ := LCg.ns_obj hn3
    exact hq h3 _ oC' (G1.replace (fun b x hb ex => hs3.extBut b x hb ex) heC) hoC
  unfold bindT at e
  split at e
  · rename_i x px d
    split at e
    · rename_i hc
      cases e
      refine st (by simpa using hc) G hn fun h3 tk3 oC' G3 hn3 => h h3 tk3 oC' _ G3 hn3 fun y d' hy => ?_
      rw [List.lookup_cons] at hy
      split at hy
      · rename_i hb
        cases hy
        exact ⟨v, by simp [eq_of_beq hb], r⟩
      · cases hy
    · cases e
  · rename_i x px y py k p a' b'
    split at e
    · rename_i hc
      cases e
      simp only [Bool.and_eq_true] at hc
      obtain ⟨⟨hx, hy⟩, hne⟩ := hc
      cases r with
      | tup z c e hs rr =>
        rename_i ta o vs n
        obtain ⟨vl⟩ := vs
        cases rr with
        | cons ra rr =>
          cases rr with
          | cons rb rr =>
            cases rr
            rename_i va vb
            have ht : s.heap.IsTuple ta (List.toArray [va, vb]) := ⟨_, G.z z, c, _, e⟩
            refine wpAny_assign_Tuple hh ht rfl rfl fun h1 hs1 => ?_
            have G1 : Lg h₀ L m (p1 ++ (cenv.locals, oC) :: p2) fz h1 := G.keep fun b x ex => hs1 b x (Nat.ne_of_lt (Heap.lt_size ex)) ex
            refine assignInOrder_cons (st (s1 := { s with heap := h1 }) (by simpa using hx) G1 hn fun h3 tk3 oC' G3 hn3 => ?_)
            refine assignInOrder_cons (st (s1 := { s with heap := h3, toks := tk3 }) (by simpa using hy) G3 hn3 fun h4 tk4 oC'' G4 hn4 => ?_)
            refine assignInOrder_nil (h h4 tk4 oC'' _ G4 hn4 fun z d' hz => ?_)
            have hxy : x ≠ y := by simpa using hne
            rw [List.lookup_cons] at hz
            split at hz
            · rename_i hb
              cases hz
              have : z = x := eq_of_beq hb
              subst this
              exact ⟨va, by simp [hxy], ra⟩
            · rw [List.lookup_cons] at hz
              split at hz
              · rename_i hb
                cases hz
                exact ⟨vb, by simp [eq_of_beq hb], rb⟩
              · cases hz
    · cases e
  · cases e

theorem rho_comp {env : Env} {sc : Scope} {cl : List (Str × Addr)} {C : Addr} {ρ bs : Rho} {tgt : Expr} {d : D} {oC : Obj} {m2 : Str → Option Value} {fix' fz' : Led} (O : EnvOk env) (hsc : compScopeOk env.scope.names sc = true)
    (hcl : ∀ n c, env.cells.lookup n = some c → (n, NameKind.free) ∈ sc.names → cl.lookup n = some c) (H : RhoOk h₀ L m fix fz env ρ) (eb : bindT sc tgt d = some bs) (hfix : ∀ p ∈ fix, p ∈ fix') (hfz : ∀ p ∈ fz, p ∈ fz')
    (hC : (C, oC) ∈ fix') (hn : LCg.NsObj oC m2) (hb : BsIn h₀ fz m2 bs) (hdbg : sc.names.all (fun x => !(x.1 == ("__debug__" : Str))) = true) : RhoOk h₀ L m fix' fz' (compEnvC sc cl C env) (bs ++ freeRho sc ρ) := by
  intro x sl hx
  have names : (compEnvC sc cl C env).scope.names = relN env.scope.names sc := rel_names O.k
  rw [List.lookup_append] at hx
  cases hbx : bs.lookup x with
  | some sl' =>
    rw [hbx] at hx
    cases hx
    obtain ⟨hl, d', rfl⟩ := bindT_keys eb x _ hbx
    obtain ⟨v, hv, hr⟩ := hb x d' hbx
    refine ⟨?_, v, .cmp hC hn (by unfold Env.kindOf; rw [names]; exact lookup_rel_other (by decide) hl) hv, hr.sub hfz⟩
    have := List.all_eq_true.mp hdbg _ (mem_of_lookup' hl)
    simpa using this
  | none =>
    rw [hbx] at hx
    obtain ⟨h1, ⟨d', rfl⟩, h3⟩ := freeRho_lookup hx
    obtain ⟨hd, hs⟩ := H x _ h1
    refine ⟨hd, ?_⟩
    cases d' with
    | none => trivial
    | some d' =>
      obtain ⟨v, S, hr⟩ := hs
      obtain ⟨k1, k2⟩ := compScope_free hsc x h3
      refine ⟨v, ?_, hr.sub hfz⟩
      cases S with
      | loc _ hk _ => unfold Env.kindOf at hk; rw [k1] at hk; cases hk
      | cmp _ _ hk _ => unfold Env.kindOf at hk; rw [k1] at hk; cases hk
      | cell hk hc hm hd => exact .cell (by unfold Env.kindOf; rw [names]; exact lookup_rel_free k2 k1) (hcl _ _ hc h3) (hfix _ hm) hd
end
end
section -- ML
/-- a fixed object is left alone from now on -/
theorem Lg0.leave {h₀ h h' : Heap} {L : Addr} {m : Str → Option Value} {fix fz : Led} {d : Addr} {o : Obj} (G : Lg0 h₀ L m ((d, o) :: fix) fz h) (hk : ∀ b x, b ≠ d → h.get? b = some x → h'.get? b = some x) : Lg0 h₀ L m fix fz h' := by
  obtain ⟨_, n2, n3⟩ := Lg0.ne_fix (p1 := []) G
  have D := G.N (d, o) (List.mem_append_left _ List.mem_cons_self)
  refine ⟨⟨G.F.ns.at' fun x e => hk L x (Ne.symm D.2.1) e, fun b x e => hk b x (fun q => by rw [q, D.2.2] at e; cases e) (G.F.keep b x e), G.F.above⟩, fun p hp => ?_, G.dropFix.nd, G.dropFix.dj⟩
  have hn : p.1 ≠ d := by
    rcases List.mem_append.mp hp with hp | hp
    · exact n2 p hp
    · exact n3 p hp
  have := G.N p (List.mem_cons_of_mem _ hp)
  exact ⟨hk _ _ hn this.1, this.2⟩
theorem Lg.leave {h₀ h h' : Heap} {L : Stk} {m : Str → Option Value} {fix fz : Led} {d : Addr} {o : Obj} (G : Lg h₀ L m ((d, o) :: fix) fz h) (hk : ∀ b x, b ≠ d → h.get? b = some x → h'.get? b = some x) : Lg h₀ L m fix fz h' := by
  obtain ⟨hi, G, T⟩ := G
  exact ⟨hi, Lg0.leave G hk, T⟩

section
variable {prog : Program} {w : World} {A : Around} {E : Value → Shared → Prop} {s : Shared} {h₀ h' : Heap} {L : Stk} {m : Str → Option Value} {fix fz : Led}

noncomputable def TurnOk (prog : Program) (w : World) (A : Around) (h₀ : Heap) (L : Stk) (env : Env) (ρ : Rho) (sc : Scope) (cl : List (Str × Addr)) (tgt : Expr) (ifs : List Expr) (elt : Expr) (d : D) (out : Option D) : Prop :=
  ∃ bs ok, bindT sc tgt d = some bs ∧ ∀ C, EvAllOk prog w A h₀ L (compEnvC sc cl C env) (bs ++ freeRho sc ρ) ifs ok ∧
    (ok = true → ∃ r, out = some r ∧ EvOk prog w A h₀ L (compEnvC sc cl C env) (bs ++ freeRho sc ρ) elt (r, true)) ∧ (ok = false → out = none)

theorem comp_block (hh : A.handled = none) {env : Env} {ρ : Rho} {sc : Scope} {cl : List (Str × Addr)} {tgt iter elt : Expr} {ifs : List Expr} {pos : Pos} {items : List D} {outs : List (Option D)} {I : Addr} {fp : List Addr} {P : Nat → Value → Prop} {St : Nat → Heap → Prop}
    (O : EnvOk env) (hsc : compScopeOk env.scope.names sc = true) (hkind : sc.kind = .function) (hdbg : sc.names.all (fun x => !(x.1 == ("__debug__" : Str))) = true)
    (hcl : ∀ n c, env.cells.lookup n = some c → (n, NameKind.free) ∈ sc.names → cl.lookup n = some c)
    (hlo : items.length = outs.length) (turn : ∀ (i : Nat) d out, items[i]? = some d → outs[i]? = some out → TurnOk prog w A h₀ L env ρ sc cl tgt ifs elt d out)
    (H : RhoOk h₀ L m fix fz env ρ) {oI : Obj} (G : Lg h₀ L m ((I, oI) :: fix) fz s.heap) (T : Itr prog w A h₀ L fix fz s.heap items I fp P St) (hlen : items.length ≤ line24)
    {RR : Value → Addr → Result → Shared → Prop}
    (hRR : ∀ D C h' tk add ys n oC mC, Lg h₀ L m ((C, oC) :: (D, lo ys n) :: fix) (add ++ fz) h' → LCg.NsObj oC mC → Off add (fix ++ fz) → ys.length ≤ line24 → Reps h₀ (add ++ fz) ys (outs.filterMap id) → RR (.ref D) C (.ok .next) { s with heap := h', toks := tk }) :
    wpAny (model prog w) A (newList []) (fun acc s₃ => wpAny (model prog w) A (newFunctionEnv sc env.globals cl [] env.qual none .none (some env)) (fun cenv s₄ =>
      codeAny (model prog w) A (.compStart (.ListComp elt [⟨tgt, iter, ifs, 0⟩] sc pos) 0 (.ref I) acc { cenv with scope := relabel sc env }) (RR acc cenv.locals) s₄) E s₃) E s := by
  refine wpAny_newObj_type (wpAny_newFunctionEnv (compScope_cell hsc) (by intro y hy; simp at hy) (fun h₁ hns₁ hsb₁ => ?_) hkind)
  dsimp only at hns₁ hsb₁ ⊢
  generalize hH2 : s.heap.push { cls := .type "list", dict := none, data := .seq ([] : List Value).toArray } = H2 at hns₁ hsb₁ ⊢
  -- the list
  have GD : Lg h₀ L m ((s.heap.objs.size, lo [] 0) :: (I, oI) :: fix) fz H2 := by
    rw [← hH2]
    exact G.newFix (fun b x e => Heap.get?_push_of_some _ e) (Heap.get?_push_size _ rfl) (Nat.le_refl _)
  obtain ⟨oC, heC, hoC⟩ := LCg.ns_obj hns₁
  have GC : Lg h₀ L m ((H2.objs.size, oC) :: (s.heap.objs.size, lo [] 0) :: (I, oI) :: fix) fz h₁ :=
    GD.newFix (fun b x e => hsb₁.extBut b x (Nat.ne_of_lt (Heap.lt_size e)) (Heap.get?_push_of_some _ e)) heC (Nat.le_refl _)
  have hk1 : ∀ b x, s.heap.get? b = some x → h₁.get? b = some x := fun b x e => hsb₁.extBut b x (Nat.ne_of_lt (by rw [← hH2, Heap.size_push]; exact Nat.lt_succ_of_lt (Heap.lt_size e))) (Heap.get?_push_of_some _ (hH2 ▸ Heap.get?_push_of_some _ e))
  have GI : Lg h₀ L m ((I, oI) :: (H2.objs.size, oC) :: (s.heap.objs.size, lo [] 0) :: fix) fz h₁ := GC.perm (((List.Perm.swap _ _ _).cons _).trans (List.Perm.swap _ _ _))
  generalize s.heap.objs.size = D at *
  generalize H2.objs.size = C at *
  have hst₁ : St 0 h₁ := T.W.frame _ _ _ T.st fun b _ o e => hk1 b o e
  have fixmono : ∀ (a b c : Addr × Obj), ∀ p ∈ fix, p ∈ a :: b :: c :: fix := fun a b c p hp => List.mem_cons_of_mem _ (List.mem_cons_of_mem _ (List.mem_cons_of_mem _ hp))
  have loop : ∀ s₃ : Shared, s₃ = { s with heap := h₁, toks := s.toks + ([] : List (Str × Value)).length } →
      codeAny (model prog w) A (.compLoop (.ListComp elt [⟨tgt, iter, ifs, 0⟩] sc pos) 0 (.ref I) (.ref D) (compEnvC sc cl C env)) (RR (.ref D) C) s₃ := by
    rintro s₃ rfl
    refine cloop (fun k s₁ => ∃ i h' tk add oI oC mC ys n, k + i = items.length ∧ s₁ = { s with heap := h', toks := tk } ∧ Lg h₀ L m ((I, oI) :: (C, oC) :: (D, lo ys n) :: fix) (add ++ fz) h' ∧ LCg.NsObj oC mC ∧ Off add (fix ++ fz) ∧ St i h' ∧ ys.length ≤ i ∧
        Reps h₀ (add ++ fz) ys ((outs.take i).filterMap id)) ?_ items.length ⟨0, h₁, _, [], oI, oC, _, [], 0, by simp, rfl, GI, hoC, Off.nil, hst₁, Nat.le_refl _, by simpa using Reps.nil⟩
    rintro k s₁ ⟨i, h', tk, add, oI, oC, mC, ys, n, hki, rfl, G1, hn1, hoff, hst, hyl, hys⟩
    cases k with
    | zero =>
      have hi : i = items.length := by (first | lia | omega)
      subst hi
      refine T.W.done _ _ _ hst fun h2 tk2 hk2 => ?_
      have G2 := G1.leave (h' := h2) fun b x hb e => hk2 b x (by simpa using hb) e
      refine hRR D C h2 tk2 add ys n oC mC G2 hn1 hoff (Nat.le_trans hyl hlen) ?_
      have : outs.take items.length = outs := List.take_of_length_le (by (first | lia | omega))
      rwa [this] at hys
    | succ k =>
      have hi : i < items.length := by (first | lia | omega)
      refine T.W.item i _ _ _ hi hst fun v h2 tk2 hv hst2 hk2 => ?_
      obtain ⟨oI2, nI2, hI2, hcI2, hgI2⟩ := T.cls _ _ hst2
      have G2 : Lg h₀ L m ((I, oI2) :: (C, oC) :: (D, lo ys n) :: fix) (add ++ fz) h2 := Lg.replace (p1 := []) G1 (fun b x hb e => hk2 b x (by simpa using hb) e) hI2
      refine go_sound hI2 hcI2 hgI2 ?_
      obtain ⟨d, hd, hr⟩ := T.item i v hi hv
      have hio : i < outs.length := by (first | lia | omega)
      obtain ⟨bs, ok, hbs, hT⟩ := turn i d _ hd (List.getElem?_eq_getElem hio)
      obtain ⟨hAll, hTrue, hFalse⟩ := hT C
      have hr' : Rep h₀ (add ++ fz) v d := hr.sub fun p hp => List.mem_append_right _ hp
      refine asg_comp (p1 := [(I, oI2)]) (p2 := (D, lo ys n) :: fix) (cenv := compEnvC sc cl C env) hh (rel_names O.k) hkind hbs hr' G2 hn1 fun h3 tk3 oC3 m3 G3 hn3 hb3 => ?_
      have H3 : RhoOk h₀ L m ((I, oI2) :: (C, oC3) :: (D, lo ys n) :: fix) (add ++ fz) (compEnvC sc cl C env) (bs ++ freeRho sc ρ) :=
        rho_comp (fz := add ++ fz) O hsc hcl (H.grow add) hbs (fixmono _ _ _) (fun p hp => hp) (List.mem_cons_of_mem _ List.mem_cons_self) hn3 hb3 hdbg
      have hz2 : ∀ p ∈ fz, p ∈ add ++ fz := fun p hp => List.mem_append_right _ hp
      refine hAll.2 _ _ _ _ _ _ G3 H3 fun c h4 tk4 add4 G4 ho4 hc => ?_
      subst hc
      have e1 : (add4 ++ (add ++ fz)) = (add4 ++ add) ++ fz := (List.append_assoc ..).symm
      have ho4' : Off (add4 ++ add) (fix ++ fz) := Off.append (ho4.sub fun p hp => by
        rcases List.mem_append.mp hp with h | h
        · exact List.mem_append_left _ (fixmono _ _ _ p h)
        · exact List.mem_append_right _ (List.mem_append_right _ h)) hoff
      have hz4 : ∀ p ∈ fz, p ∈ add4 ++ (add ++ fz) := fun p hp => List.mem_append_right _ (List.mem_append_right _ hp)
      have outsT : outs.take (i + 1) = outs.take i ++ [outs[i]] := by rw [List.take_add_one, List.getElem?_eq_getElem hio]; rfl
      cases c with
      | false =>
        simp only [Bool.false_eq_true, if_false]
        have hst4 : St (i + 1) h4 := T.carry (h' := h2) G2 G4 hz2 hz4 hI2 (G4.fixed List.mem_cons_self) hst2
        refine ⟨k, Nat.lt_succ_self _, i + 1, h4, _, add4 ++ add, oI2, oC3, m3, ys, n, by (first | lia | omega), rfl, e1 ▸ G4, hn3, ho4', hst4, Nat.le_succ_of_le hyl, ?_⟩
        rw [outsT, List.filterMap_append, hFalse rfl]
        simp only [List.filterMap_cons, List.filterMap_nil, id]
        rw [List.append_nil, ← e1]
        exact hys.sub fun p hp => List.mem_append_right _ hp
      | true =>
        simp only [if_true]
        obtain ⟨r, hor, hE⟩ := hTrue rfl
        have H4 : RhoOk h₀ L m ((I, oI2) :: (C, oC3) :: (D, lo ys n) :: fix) (add4 ++ (add ++ fz)) (compEnvC sc cl C env) (bs ++ freeRho sc ρ) := H3.grow add4
        refine hE _ _ _ _ _ _ G4 H4 fun x h5 tk5 add5 G5 ho5 hx => ?_
        have hD5 : h5.get? D = some (lo ys n) := G5.fixed (List.mem_cons_of_mem _ (List.mem_cons_of_mem _ List.mem_cons_self))
        refine append_at (hsz := by rw [List.size_toArray]; have := line24_le; (first | lia | omega)) hD5 fun h6 hs6 hD6 => ?_
        have G6 : Lg h₀ L m ((I, oI2) :: (C, oC3) :: (D, lo (ys ++ [x]) (n + 1)) :: fix) (add5 ++ (add4 ++ (add ++ fz))) h6 :=
          Lg.replace (p1 := [(I, oI2), (C, oC3)]) G5 (fun b y hb e => hs6.extBut b y hb e) (by rw [hD6, List.push_toArray])
        have e2 : (add5 ++ (add4 ++ (add ++ fz))) = (add5 ++ (add4 ++ add)) ++ fz := by simp only [List.append_assoc]
        have hst6 : St (i + 1) h6 := T.carry (h' := h2) G2 G6 hz2 (fun p hp => List.mem_append_right _ (hz4 p hp)) hI2 (G6.fixed List.mem_cons_self) hst2
        have ho5' : Off (add5 ++ (add4 ++ add)) (fix ++ fz) := Off.append (ho5.sub fun p hp => by
          rcases List.mem_append.mp hp with h | h
          · exact List.mem_append_left _ (fixmono _ _ _ p h)
          · exact List.mem_append_right _ (hz4 p h)) ho4'
        refine ⟨k, Nat.lt_succ_self _, i + 1, h6, _, add5 ++ (add4 ++ add), oI2, oC3, m3, ys ++ [x], n + 1, by (first | lia | omega), rfl, e2 ▸ G6, hn3, ho5', hst6, by simp; (first | lia | omega), ?_⟩
        rw [outsT, List.filterMap_append, hor]
        simp only [List.filterMap_cons, List.filterMap_nil, id]
        rw [← e2]
        refine (hys.sub fun p hp => ?_).append (.cons hx .nil)
        exact List.mem_append_right _ (List.mem_append_right _ hp)
  exact codeAny_compStart_list (loop _ rfl) (T.W.self 0 _ _ _ hst₁ (loop _ rfl))

theorem lookup_rel_cell {nm : Names} : ∀ {names : Names} {x : Str}, (∀ y ∈ names, y.2 ≠ .cell) →
    (names.map fun (n, k) => if (k == NameKind.free && nm.lookup n == some NameKind.cell) = true then (n, NameKind.cell) else (n, k)).lookup x = some .cell → (x, NameKind.free) ∈ names ∧ nm.lookup x = some .cell
  | [], _, _, h => by simp at h
  | (n, k) :: r, x, hc, h => by
    rw [List.map_cons, List.lookup_cons] at h
    dsimp only at h
    by_cases hk : (k == NameKind.free && nm.lookup n == some NameKind.cell) = true
    · rw [if_pos hk] at h
      cases hx : x == n with
      | true =>
        have : x = n := eq_of_beq hx
        subst this
        simp only [Bool.and_eq_true, beq_iff_eq] at hk
        obtain ⟨rfl, h2⟩ := hk
        exact ⟨List.mem_cons_self, h2⟩
      | false =>
        dsimp only at h
        rw [hx] at h
        obtain ⟨h1, h2⟩ := lookup_rel_cell (fun y hy => hc y (List.mem_cons_of_mem _ hy)) h
        exact ⟨List.mem_cons_of_mem _ h1, h2⟩
    · rw [if_neg hk] at h
      cases hx : x == n with
      | true =>
        dsimp only at h
        rw [hx] at h
        cases h
        exact absurd rfl (hc _ List.mem_cons_self)
      | false =>
        dsimp only at h
        rw [hx] at h
        obtain ⟨h1, h2⟩ := lookup_rel_cell (fun y hy => hc y (List.mem_cons_of_mem _ hy)) h
        exact ⟨List.mem_cons_of_mem _ h1, h2⟩

theorem EnvOk.comp {env : Env} {sc : Scope} {cl : List (Str × Addr)} {C : Addr} (O : EnvOk env) (hsc : compScopeOk env.scope.names sc = true) (hk : sc.kind = .function)
    (hcl : ∀ n c, env.cells.lookup n = some c → (n, NameKind.free) ∈ sc.names → cl.lookup n = some c) : EnvOk (compEnvC sc cl C env) where
  g := O.g
  b := O.b
  k := hk
  c := fun x hx => by
    unfold Env.kindOf at hx
    rw [show (compEnvC sc cl C env).scope.names = relN env.scope.names sc from rel_names O.k] at hx
    obtain ⟨h1, h2⟩ := lookup_rel_cell (compScope_cell hsc) hx
    obtain ⟨c, hc⟩ := Option.isSome_iff_exists.mp (O.c x h2)
    show (cl.lookup x).isSome = true
    rw [hcl x c hc h1]; rfl

/-- a comprehension as an expression -/
theorem comp_sound (hh : A.handled = none) {env : Env} {ρ : Rho} {sc : Scope} {tgt iter elt : Expr} {ifs : List Expr} {pos : Pos} {items : List D} {outs : List (Option D)}
    (O : EnvOk env) (hsc : compScopeOk env.scope.names sc = true) (hkind : sc.kind = .function) (hdbg : sc.names.all (fun x => !(x.1 == ("__debug__" : Str))) = true) (hset : notSet iter = true)
    (hI : EvIOk prog w A h₀ L env ρ iter items) (hlo : items.length = outs.length)
    (turn : ∀ cl, (∀ n c, env.cells.lookup n = some c → (n, NameKind.free) ∈ sc.names → cl.lookup n = some c) → ∀ (i : Nat) d out, items[i]? = some d → outs[i]? = some out → TurnOk prog w A h₀ L env ρ sc cl tgt ifs elt d out) :
    EvOk prog w A h₀ L env ρ (.ListComp elt [⟨tgt, iter, ifs, 0⟩] sc pos) (.lst (outs.filterMap id), true) := by
  intro m fix fz s E Q G H P
  obtain ⟨cl, hclos, hcl⟩ := closureFor_of (env := env) (sc := sc) fun x hx e => O.c x.1 (compScope_free hsc x.1 (by rw [← e]; exact hx)).1
  rw [eval_ListComp]
  refine wpAny_comprehension_free (use := none) rfl (fun x => by cases iter <;> first | rfl | cases hset) hclos hkind (compScope_local hsc) (hI m fix fz s _ _ G H fun I oI h' tk' add fp PP St G1 ho1 T hlen => ?_)
  refine comp_block hh O hsc hkind hdbg hcl hlo (turn cl hcl) (H.grow add) G1 T hlen fun D C h2 tk2 add2 ys n oC mC G2 hn2 ho2 hyl hys => ?_
  refine ⟨mC, hn2.ns (G2.fixed List.mem_cons_self), fun h3 hs3 => ?_⟩
  have G3 : Lg h₀ L m ((D, lo ys n) :: fix) (add2 ++ (add ++ fz)) h3 := G2.leave fun b x hb e => hs3.extBut b x hb e
  have hoff : Off [(D, lo ys n)] (fix ++ (add2 ++ (add ++ fz))) := fun p hp q hq => by
    rw [List.mem_singleton.mp hp]
    obtain ⟨_, k2, k3⟩ := Lg.ne_fix (p1 := []) G3
    rcases List.mem_append.mp hq with hq | hq
    · exact (k2 q hq).symm
    · exact (k3 q hq).symm
  have G4 := G3.freeze
  have e1 : ((D, lo ys n) :: (add2 ++ (add ++ fz))) = ((D, lo ys n) :: (add2 ++ add)) ++ fz := by simp
  refine P _ h3 _ ((D, lo ys n) :: (add2 ++ add)) (e1 ▸ G4) ?_ ?_
  · refine Off.append (a := [(D, lo ys n)]) (hoff.sub fun p hp => ?_) (Off.append (ho2.sub fun p hp => ?_) ho1)
    · rcases List.mem_append.mp hp with h | h
      · exact List.mem_append_left _ h
      · exact List.mem_append_right _ (List.mem_append_right _ (List.mem_append_right _ h))
    · rcases List.mem_append.mp hp with h | h
      · exact List.mem_append_left _ h
      · exact List.mem_append_right _ (List.mem_append_right _ h)
  · show Rep h₀ _ _ _
    rw [← e1]
    exact .lst (.inr List.mem_cons_self) rfl rfl (by rw [List.size_toArray]; exact hyl) (by simpa using hys.sub fun p hp => List.mem_cons_of_mem _ hp)
end
end
section -- MM
theorem range_boot : bootBuiltins (Str.ofString "range") = some (.type "range") := boot_range
theorem reversed_boot : bootBuiltins (Str.ofString "reversed") = some (.type "reversed") := boot_reversed

theorem builtD_name {g : Str} {ds : List D} {r : Option D} (e : builtD g ds = some r) : g ∈ bnames := by
  unfold builtD at e
  split at e
  · rename_i h; subst h; decide
  · split at e
    · rename_i h; subst h; decide
    · split at e
      · rename_i h; subst h; decide
      · split at e
        · rename_i h; subst h; decide
        · split at e
          · rename_i h; subst h; decide
          · cases e
theorem bnames_debug : ∀ g ∈ bnames, (g == ("__debug__" : Str)) = false := by decide
theorem bnames_name : ∀ g ∈ bnames, g ≠ ("__name__" : Str) := by decide

section
variable {prog : Program} {w : World} {A : Around} {h₀ : Heap} {L : Stk} {p : Program} {loose : Heap → Prop} {mean : ExcName → Option Value} {mg mb : Str → Option Value} {A₀ : Around} {base : Heap} {outer : List Env} {fenv : Env} {dep : Nat} {Φ : Phi}

variable {env : Env} {ρ : Rho}

theorem evs_flag {fix fz : Led} {b c : Bool} {v : Value} {d : D} {vs : List Value} {ds : List D} (r : RepR h₀ fix fz v (d, b)) (rs : Reps h₀ (cond c fz (fix ++ fz)) vs ds) : Reps h₀ (cond (b && c) fz (fix ++ fz)) (v :: vs) (d :: ds) := by
  cases b with
  | false => cases c with
    | false => exact .cons r rs
    | true => exact .cons r (rs.sub fun p hp => List.mem_append_right _ hp)
  | true => cases c with
    | false => exact .cons (Rep.sub (fun p hp => List.mem_append_right _ hp) r) rs
    | true => exact .cons r rs
theorem evs_ok {x : Expr} {es : List Expr} {a : R} {ds : List D} {f : Bool} (hn : notStar x = true) (I1 : EvOk prog w A h₀ L env ρ x a) (I2 : EvsOk prog w A h₀ L env ρ es (ds, f)) : EvsOk prog w A h₀ L env ρ (x :: es) (a.1 :: ds, (a.2 && f)) := by
  refine ⟨by rw [List.all_cons, hn, I2.1]; rfl, fun pos m fix fz s E Q G H P => ?_⟩
  refine spliced_back_cons hn (I1 m fix fz s _ _ G H fun v h1 tk1 add1 G1 ho1 hr1 => ?_)
  exact I2.2 pos m fix (add1 ++ fz) _ _ _ G1 (H.grow add1) fun vs h2 tk2 add2 G2 ho2 hr2 => P.next ho1 _ h2 tk2 add2 G2 ho2 (evs_flag (hr1.grow add2) hr2)

theorem evP_ok {x : Expr} {i : Int} {f : Bool} (I : EvOk prog w A h₀ L env ρ x (.int i, f)) : EvPOk prog w A h₀ L env ρ (some x) (some i) :=
  fun m fix fz s E Q G H P => I m fix fz s _ _ G H fun v h1 tk1 add1 G1 ho1 hr1 => P v h1 tk1 add1 G1 ho1 (by cases hr1; exact ⟨_, rfl⟩)

theorem evT_plain {x : Expr} {a : R} {b : Bool} (I : EvOk prog w A h₀ L env ρ x a) (e : truthD a.1 = some b)
    (hx : isTrue x env (eval x env) = (do let v ← eval x env; standAt x.pos; holding [v] (truthy v))) : EvTOk prog w A h₀ L env ρ x b :=
  fun m fix fz s E Q G H P => isTrue_plain (I m fix fz s _ _ G H fun v h1 tk1 add1 G1 ho1 hr1 => truth_sound G1 hr1 e fun tk => P b h1 tk add1 G1 ho1 rfl) hx
theorem evT_not {x : Expr} {p : Pos} {b : Bool} (I : EvTOk prog w A h₀ L env ρ x b) : EvTOk prog w A h₀ L env ρ (.UnaryOp .Not x p) (!b) :=
  fun m fix fz s E Q G H P => isTrue_not (I m fix fz s _ _ G H fun v h1 tk1 add1 G1 ho1 hr1 => P _ h1 tk1 add1 G1 ho1 (by rw [hr1]))
theorem evT_cmp {x : Expr} {ops : List CmpOp} {rs : List Expr} {p : Pos} {a : R} {b : Bool} (I1 : EvOk prog w A h₀ L env ρ x a) (I2 : EvCOk prog w A h₀ L env ρ a ops rs b) : EvTOk prog w A h₀ L env ρ (.Compare x ops rs p) b :=
  fun m fix fz s E Q G H P => isTrue_Compare_ I2.1 (I1 m fix fz s _ _ G H fun v h1 tk1 add1 G1 ho1 hr1 => I2.2 _ m fix (add1 ++ fz) _ v _ _ G1 (H.grow add1) hr1 (P.next ho1))

theorem evC_one (hu : A.units + 64 < cLine) {a b : R} {op : CmpOp} {r : Expr} {v : Bool} (hn : notSet r = true) (I : EvOk prog w A h₀ L env ρ r b) (e : cmpR op a b = some v) : EvCOk prog w A h₀ L env ρ a [op] [r] v :=
  ⟨by rw [List.all_cons, hn]; rfl, fun pos m fix fz s va E Q G H hra P => testChain_one (I m fix fz s _ _ G H fun v h1 tk1 add1 G1 ho1 hr1 =>
    cmp_sound G1 hu (hra.grow add1) hr1 e (wpAny_truthy_bool (P _ h1 tk1 add1 G1 ho1 rfl)))⟩
theorem evC_two (hu : A.units + 64 < cLine) {a b : R} {op o2 : CmpOp} {r r2 : Expr} {v v2 : Bool} (hn : notSet r = true) (hn2 : notSet r2 = true) (I : EvOk prog w A h₀ L env ρ r b) (e : cmpR op a b = some v) (I2 : EvCOk prog w A h₀ L env ρ b [o2] [r2] v2) :
    EvCOk prog w A h₀ L env ρ a [op, o2] [r, r2] (v && v2) := by
  refine ⟨by rw [List.all_cons, hn, I2.1]; rfl, fun pos m fix fz s va E Q G H hra P => ?_⟩
  refine testChain_more (I m fix fz s _ _ G H fun vb h1 tk1 add1 G1 ho1 hr1 => ?_)
  refine cmp_sound G1 hu (hra.grow add1) hr1 e (wpAny_truthy_bool ?_)
  cases v with
  | true => exact I2.2 pos m fix (add1 ++ fz) _ vb _ _ G1 (H.grow add1) hr1 (P.next ho1)
  | false => exact P _ h1 tk1 add1 G1 ho1 rfl

theorem evAll_ok {x : Expr} {es : List Expr} {v u : Bool} (I1 : EvTOk prog w A h₀ L env ρ x v) (I2 : EvAllOk prog w A h₀ L env ρ es u) : EvAllOk prog w A h₀ L env ρ (x :: es) (v && u) := by
  refine ⟨fun m fix fz s E Q G H P => ?_, fun m fix fz s E Q G H P => ?_⟩
  · refine wpAny_allTrue_And_cons (I1 m fix fz s _ _ G H fun c h1 tk1 add1 G1 ho1 hr1 => ?_)
    subst hr1
    cases c with
    | true => exact I2.1 m fix _ _ _ _ G1 (H.grow add1) (P.next ho1)
    | false => exact P _ h1 tk1 add1 G1 ho1 rfl
  · refine wpAny_tests_cons (I1 m fix fz s _ _ G H fun c h1 tk1 add1 G1 ho1 hr1 => ?_)
    subst hr1
    cases c with
    | true => exact I2.2 m fix _ _ _ _ G1 (H.grow add1) (P.next ho1)
    | false => exact P _ h1 tk1 add1 G1 ho1 rfl
theorem evAny_ok {x : Expr} {es : List Expr} {v u : Bool} (I1 : EvTOk prog w A h₀ L env ρ x v) (I2 : EvAnyOk prog w A h₀ L env ρ es u) : EvAnyOk prog w A h₀ L env ρ (x :: es) (v || u) := by
  intro m fix fz s E Q G H P
  refine wpAny_allTrue_Or_cons (I1 m fix fz s _ _ G H fun c h1 tk1 add1 G1 ho1 hr1 => ?_)
  subst hr1
  cases c with
  | true => exact P _ h1 tk1 add1 G1 ho1 rfl
  | false => exact I2 m fix _ _ _ _ G1 (H.grow add1) (P.next ho1)
end
end
section -- MN
theorem builtD_boot {g : Str} {ds : List D} {d : D} (e : builtD g ds = some (some d)) : ∃ id, bootBuiltins g = some (.builtin id) := by
  unfold builtD at e
  split at e
  · rename_i h; subst h; exact ⟨_, boot_len⟩
  · split at e
    · rename_i h; subst h; exact ⟨_, boot_abs⟩
    · split at e
      · rename_i h; subst h; exact ⟨_, boot_sum⟩
      · split at e
        · rename_i h; subst h; exact ⟨_, boot_min⟩
        · split at e
          · rename_i h; subst h; exact ⟨_, boot_divmod⟩
          · cases e

theorem method_eq0 {x name : Str} {xp ap pos : Pos} {env : Env} (hp : ap.endLine = pos.line) : eval (.Call (.Attribute (.Name x xp) name ap) [] [] pos) env = (do
      let ov ← eval (.Name x xp) env
      standAt ap.atName
      let (f, first) ← holding [ov] (getMethod ov name (do return (← importBound (.Name x xp) env).getD true))
      callWith pos f first (backTo pos (starEach [] env)) []) := by
  show (do
    let ov ← eval (.Name x xp) env
    standAt ap.atName
    methodCall (.Name x xp) name ap pos env ov 0 (backTo pos (starEach [] env)) []) = _
  simp only [methodCall, methodCallPos, calleeOf, hp, show methodCallForm 0 (backTo pos (starEach [] env)) [] = true from rfl, if_true, beq_self_eq_true, Bool.or_true, pure_bind]
theorem method_eq1 {x name : Str} {xp ap pos : Pos} {e : Expr} {env : Env} (hp : ap.endLine = pos.line) (hn : notStar e = true) : eval (.Call (.Attribute (.Name x xp) name ap) [e] [] pos) env = (do
      let ov ← eval (.Name x xp) env
      standAt ap.atName
      let (f, first) ← holding [ov] (getMethod ov name (do return (← importBound (.Name x xp) env).getD true))
      callWith pos f first (backTo pos (starEach [e] env)) []) := by
  show (do
    let ov ← eval (.Name x xp) env
    standAt ap.atName
    methodCall (.Name x xp) name ap pos env ov 1 (backTo pos (starEach [e] env)) []) = _
  have : methodCallForm 1 (backTo pos (starEach [e] env)) [] = true := by rw [starEach_cons hn]; rfl
  simp only [methodCall, methodCallPos, calleeOf, hp, this, if_true, beq_self_eq_true, Bool.or_true, pure_bind]

section
variable {prog : Program} {w : World} {A : Around} {h₀ : Heap} {L : Stk} {p : Program} {loose : Heap → Prop} {mean : ExcName → Option Value} {mg mb : Str → Option Value} {A₀ : Around} {base : Heap} {outer : List Env} {fenv : Env} {dep : Nat} {Φ : Phi}
variable {env : Env} {ρ : Rho}

theorem cond_all {fz fix : Led} {f : Bool} {vs : List Value} {ds : List D} (r : Reps h₀ (cond f fz (fix ++ fz)) vs ds) : Reps h₀ (fix ++ fz) vs ds := by
  cases f
  · exact r
  · exact r.sub fun p hp => List.mem_append_right _ hp

theorem callb_ok (X : Fx p loose mean mg mb A₀ A base h₀ outer fenv L dep) (Γ : Gx prog w p loose mean mg mb Φ dep) (O : EnvOk env) {g : Str} {gp cp : Pos} {es : List Expr} {ds : List D} {f : Bool} {d : D}
    (hk : env.scope.names.lookup g = some .globalImplicit) (I : EvsOk prog w A h₀ L env ρ es (ds, f)) (hb : builtD g ds = some (some d)) : EvOk prog w A h₀ L env ρ (.Call (.Name g gp) es [] cp) (d, true) := by
  intro m fix fz s E Q G H P
  have hbn := builtD_name hb
  obtain ⟨id, hid⟩ := builtD_boot hb
  refine Call_Name_ (global_sound O G X.T.g X.T.b hk (bnames_debug g hbn) (.inr ⟨Γ.nob g hbn, (X.T.builtins g (bnames_name g hbn)).trans hid⟩) ?_)
  refine callWith_builtin (noStars I.1 _) (evalArgs_all I.1 (I.2 cp m fix fz s _ _ G H fun vs h1 tk1 add1 G1 ho1 hr1 => ?_))
  obtain ⟨id', hid', hw⟩ := built_sound (prog := prog) (w := w) (E := E) X.hh G1 (cond_all hr1) hb (P.next ho1)
  cases hid.symm.trans hid'
  exact hw
theorem callf_ok (X : Fx p loose mean mg mb A₀ A base h₀ outer fenv L dep) (Γ : Gx prog w p loose mean mg mb Φ dep) (O : EnvOk env) {g : Str} {gp cp : Pos} {es : List Expr} {ds : List D} {d : D}
    (hk : env.scope.names.lookup g = some .globalImplicit) (I : EvsOk prog w A h₀ L env ρ es (ds, true)) (hd : Φ g ds = some d) : EvOk prog w A h₀ L env ρ (.Call (.Name g gp) es [] cp) (d, true) := by
  intro m fix fz s E Q G H P
  obtain ⟨hdb, rc, hrc, hname, hcall⟩ := Γ.phi g ds d hd
  obtain ⟨a, o, pm, code, doc, hmg, hob, hfd, _⟩ := X.T.fn rc hrc
  rw [hname] at hmg
  refine Call_Name_ (global_sound O G X.T.g X.T.b hk hdb (.inl hmg) ?_)
  refine callWith_function (o := o) (evalArgs_all I.1 (I.2 cp m fix fz s _ _ G H fun vs h1 tk1 add1 G1 ho1 hr1 => ⟨⟨G1.F.keep _ _ hob, hfd⟩, ?_⟩))
  exact hcall _ hmg A₀ A base h₀ outer fenv L m fix (add1 ++ fz) _ vs _ _ X G1 hr1 fun v h2 tk2 add2 G2 ho2 hr2 => P.next ho1 v h2 tk2 add2 G2 ho2 hr2

theorem slice_ok {v : Expr} {lo hi st : Option Expr} {sp pos : Pos} {r : R} {l u t : Option Int} {ds : List D} {f : Bool} (I0 : EvOk prog w A h₀ L env ρ v (.lst ds, f)) (I1 : EvPOk prog w A h₀ L env ρ lo l)
    (I2 : EvPOk prog w A h₀ L env ρ hi u) (I3 : EvPOk prog w A h₀ L env ρ st t) (ht : t ≠ some 0) (e : seqR (pickD ds l u t) (f || allAtom ds) = some r) : EvOk prog w A h₀ L env ρ (.Subscript v (.Slice lo hi st sp) pos) r := by
  intro m fix fz s E Q G H P
  refine Subscript_ (I0 m fix fz s _ _ G H fun va h4 tk4 add4 G4 ho4 hr4 => ?_)
  refine wpAny_Slice (I1 m fix _ _ _ _ G4 (H.grow add4) fun vl h5 tk5 add5 G5 ho5 hr5 => ?_)
  refine I2 m fix _ _ _ _ G5 ((H.grow add4).grow add5) fun vu h6 tk6 add6 G6 ho6 hr6 => ?_
  refine I3 m fix _ _ _ _ G6 (((H.grow add4).grow add5).grow add6) fun vt h7 tk7 add7 G7 ho7 hr7 => ?_
  have hr4' := ((hr4.grow add5).grow add6).grow add7
  obtain ⟨b, us, rfl, hl, hsz, hrs⟩ := listR_of (s := ⟨h7, s.gens, s.drawn, tk7, s.os⟩) G7 hr4'
  refine kba_turn (value' := PySem.Expr.Name (PySem.Str.ofString "_") ⟨0, 0, 0, 0⟩) (fun _ => rfl) ?_
  have hops : ∃ ops : Value → Value → List Value, ∀ o i, subscripted (.Slice lo hi st sp) false o i = operate (ops o i) (getItem o i) := by
    cases st with
    | none => exact ⟨fun o i => [i, o], fun _ _ => rfl⟩
    | some x => exact ⟨fun o i => [o, i], fun _ _ => rfl⟩
  obtain ⟨ops, hops⟩ := hops
  have hlp := hl.push ({ cls := .type "slice", data := .fields #[vl, vu, vt] } : Obj)
  refine subscriptTail_ops (hlp.typeIs) list_getitem_lookup (wpAny_getItem_list_slice hlp (Heap.IsSliceOf.new ..) hr5.is hr6.is hr7.is ht ?_ (Nat.le_trans hsz line24_le)) (hops _ _) (fun _ => rfl)
  dsimp only
  have P' := ((P.next (h' := h4) (tk' := tk4) ho4).next (h' := h5) (tk' := tk5) ho5).next (h' := h6) (tk' := tk6) ho6
  have P'' := P'.next (h' := h7.push { cls := .type "slice", data := .fields #[vl, vu, vt] }) (tk' := tk7) ho7
  have G8 : Lg h₀ L m fix (add7 ++ (add6 ++ (add5 ++ (add4 ++ fz)))) (h7.push { cls := .type "slice", data := .fields #[vl, vu, vt] }) := G7.keep fun b x e => Heap.get?_push_of_some _ e
  refine P''.list (tk := tk7) G8 rfl ?_
  have hp := pick_reps hrs l u t
  unfold seqR at e
  split at e
  · rename_i hc
    cases e
    have hlen := hp.length
    refine .lst (.inr List.mem_cons_self) rfl rfl (by rw [Array.length_toList] at hlen; (first | lia | omega)) ?_
    have hfl : ∀ {f : Bool}, (f || allAtom ds || allAtom (pickD ds l u t)) = true → allAtom ds = true ∨ (f || allAtom (pickD ds l u t)) = true := by
      intro f; cases f <;> cases allAtom ds <;> simp
    have hat : allAtom ds = true → allAtom (pickD ds l u t) = true := by
      intro h
      unfold allAtom at h ⊢
      rw [List.all_eq_true] at h ⊢
      intro x hx
      unfold pickD at hx
      obtain ⟨i, _, hi⟩ := List.mem_filterMap.mp hx
      exact h x (List.mem_of_getElem? hi)
    have hfin : (f || allAtom (pickD ds l u t)) = true := by
      rcases hfl hc.2 with h | h
      · rw [hat h]; simp
      · exact h
    exact reps_flag hp hfin id _ fun p hp => List.mem_cons_of_mem _ hp
  · cases e


theorem bin_ok {l r : Expr} {op : Operator} {p : Pos} {a b c : R} (I1 : EvOk prog w A h₀ L env ρ l a) (I2 : EvOk prog w A h₀ L env ρ r b) (e : bopR op a b = some c) : EvOk prog w A h₀ L env ρ (.BinOp l op r p) c :=
  fun m fix fz s E Q G H P => wpAny_BinOp (I1 m fix fz s _ _ G H fun v h1 tk1 add1 G1 ho1 hr1 => I2 m fix _ _ _ _ G1 (H.grow add1) fun v2 h2 tk2 add2 G2 ho2 hr2 => bop_sound G2 (hr1.grow add2) hr2 e ((P.next ho1).next ho2))
theorem ift_ok {t x y : Expr} {p : Pos} {c : R} {v : Bool} (I1 : EvTOk prog w A h₀ L env ρ t v) (I2 : EvOk prog w A h₀ L env ρ (if v = true then x else y) c) : EvOk prog w A h₀ L env ρ (.IfExp t x y p) c := by
  intro m fix fz s E Q G H P
  refine IfExp_ (I1 m fix fz s _ _ G H fun b h1 tk1 add1 G1 ho1 hr1 => ?_)
  subst hr1
  cases b with
  | true => exact I2 m fix _ _ _ _ G1 (H.grow add1) (P.next ho1)
  | false => exact I2 m fix _ _ _ _ G1 (H.grow add1) (P.next ho1)
theorem cmp_ok (hu : A.units + 64 < cLine) {l r : Expr} {op : CmpOp} {p : Pos} {a b : R} {c : Bool} (hn : notSet r = true) (I1 : EvOk prog w A h₀ L env ρ l a) (I2 : EvOk prog w A h₀ L env ρ r b) (e : cmpR op a b = some c) : EvOk prog w A h₀ L env ρ (.Compare l [op] [r] p) (.bool c, true) := by
  intro m fix fz s E Q G H P
  refine wpAny_Compare1 (I1 m fix fz s _ _ G H fun v h1 tk1 add1 G1 ho1 hr1 => I2 m fix _ _ _ _ G1 (H.grow add1) fun v2 h2 tk2 add2 G2 ho2 hr2 => ?_) ?_
  · exact cmp_sound G2 hu (hr1.grow add2) hr2 e (((P.next ho1).next ho2).here0 G2 (RepR.bool ..))
  · cases r <;> first | (cases op <;> rfl) | cases hn
theorem lst_ok {es : List Expr} {p : Pos} {ds : List D} {f : Bool} {c : R} (I : EvsOk prog w A h₀ L env ρ es (ds, f)) (e : seqR ds f = some c) : EvOk prog w A h₀ L env ρ (.List es p) c :=
  fun m fix fz s E Q G H P => wpAny_List_spliced (I.2 _ m fix fz s _ _ G H fun vs h1 tk1 add1 G1 ho1 hr1 =>
    ⟨Nat.le_trans (Nat.le_of_eq hr1.length) (Nat.le_trans (seqR_len e) line24_le), seqR_post (W := fun _ _ => True) (tk := tk1) G1 e hr1 (P.next ho1)⟩)
theorem tup_ok {es : List Expr} {k : Nat} {p : Pos} {ds : List D} {f : Bool} (I : EvsOk prog w A h₀ L env ρ es (ds, f)) (hl : ds.length ≤ line24) (hf : (f || allAtom ds) = true) : EvOk prog w A h₀ L env ρ (.Tuple es k p) (.tup ds, true) := by
  intro m fix fz s E Q G H P
  refine wpAny_Tuple_spliced (I.2 _ m fix fz s _ _ G H fun vs h1 tk1 add1 G1 ho1 hr1 => ⟨Nat.le_trans (Nat.le_of_eq hr1.length) (Nat.le_trans hl line24_le), ?_⟩)
  refine (P.next (h' := h1) (tk' := tk1) ho1).list (tk := tk1) G1 rfl ?_
  have hv := reps_flag (fz' := (h1.objs.size, ({ cls := .type "tuple", data := .seq vs.toArray } : Obj)) :: (add1 ++ fz)) hr1 hf id fun p hp => List.mem_cons_of_mem _ hp
  exact .tup (.inr List.mem_cons_self) rfl rfl (by rw [List.size_toArray, hr1.length]; exact hl) hv
theorem notSl {i : Expr} (h : notSlice i = true) : ∀ lo hi st p, i ≠ .Slice lo hi st p := fun _ _ _ _ e => by subst e; cases h
theorem sub_ok {v i : Expr} {p : Pos} {a c : R} {k : Int} {f : Bool} (hi : notSlice i = true) (I1 : EvOk prog w A h₀ L env ρ v a) (I2 : EvOk prog w A h₀ L env ρ i (.int k, f)) (e : idxD a k = some c) : EvOk prog w A h₀ L env ρ (.Subscript v i p) c := by
  intro m fix fz s E Q G H P
  refine Subscript_ (I1 m fix fz s _ _ G H fun va h1 tk1 add1 G1 ho1 hr1 => I2 m fix _ _ _ _ G1 (H.grow add1) fun v2 h2 tk2 add2 G2 ho2 hr2 => ?_)
  cases hr2
  exact idx_sound G2 (hr1.grow add2) e (notSl hi) ((P.next ho1).next ho2)
theorem bits_ok {x a : Str} {xp ap p : Pos} {i : Int} {f : Bool} (ha : a = Str.ofString "bit_length") (hp : ap.endLine = p.line) (I : EvOk prog w A h₀ L env ρ (.Name x xp) (.int i, f)) : EvOk prog w A h₀ L env ρ (.Call (.Attribute (.Name x xp) a ap) [] [] p) (.int (Builtin.Int.intBits i), true) := by
  subst ha
  intro m fix fz s E Q G H P
  refine MethodCall_ (he := method_eq0 hp) (I m fix fz s _ _ G H fun v h1 tk1 add1 G1 ho1 hr1 => ?_)
  cases hr1
  refine getMethod_int_bit_length ?_
  refine callWith_builtin rfl (evalArgs_all rfl (spliced_nil ?_))
  exact call_int_bit_length ((P.next (h' := h1) (tk' := tk1) ho1).here G1 (RepR.int ..))

theorem rng_ok (X : Fx p loose mean mg mb A₀ A base h₀ outer fenv L dep) (Γ : Gx prog w p loose mean mg mb Φ dep) (O : EnvOk env) {gp cp : Pos} {es : List Expr} {l : List D} {f : Bool} {ds : List D} (hk : env.scope.names.lookup (Str.ofString "range") = some .globalImplicit) (I : EvsOk prog w A h₀ L env ρ es (l, f))
    (c : ∀ (m : Str → Option Value) (fix fz : Led) (s : Shared) (E Q : Value → Shared → Prop) (vs : List Value), Lg h₀ L m fix fz s.heap → Reps h₀ (fix ++ fz) vs l → PostI prog w A h₀ L m fix fz s ds Q → wpAny (model prog w) A (call (.type "range") vs) (fun xv s₁ => wpAny (model prog w) A (pyIter xv) Q E s₁) E s) :
    EvIOk prog w A h₀ L env ρ (.Call (.Name (Str.ofString "range") gp) es [] cp) ds := by
  intro m fix fz s E Q G H P
  refine Call_Name_ (global_sound O G X.T.g X.T.b hk (bnames_debug _ (by decide)) (.inr ⟨Γ.nob _ (by decide), (X.T.builtins _ (by decide)).trans range_boot⟩) ?_)
  refine PyProof.Rows.callWith_type (noStars I.1 _) (evalArgs_all I.1 (I.2 cp m fix fz s _ _ G H fun vs h1 tk1 add1 G1 ho1 hr1 => ?_))
  exact c m fix (add1 ++ fz) ⟨h1, s.gens, s.drawn, tk1, s.os⟩ E Q vs G1 (cond_all hr1) (P.next ho1)
theorem rng1_ok (X : Fx p loose mean mg mb A₀ A base h₀ outer fenv L dep) (Γ : Gx prog w p loose mean mg mb Φ dep) (O : EnvOk env) {gp cp : Pos} {es : List Expr} {b : Int} {f : Bool} {ds : List D} (hk : env.scope.names.lookup (Str.ofString "range") = some .globalImplicit) (I : EvsOk prog w A h₀ L env ρ es ([.int b], f))
    (e : rangeD 0 b 1 = some ds) : EvIOk prog w A h₀ L env ρ (.Call (.Name (Str.ofString "range") gp) es [] cp) ds :=
  rng_ok X Γ O hk I fun m fix fz s E Q vs G r P => by
    cases r with | cons a r => cases r; cases a
                               exact call_range_1 (range_itr X.hh (G.keep fun b x e => Heap.get?_push_of_some _ e) (IsRange.new ..) e fun I oI h' tk' add fp PP St G' ho' T' hl => P I oI h' tk' add fp PP St G' ho' T' hl)
theorem rng3_ok (X : Fx p loose mean mg mb A₀ A base h₀ outer fenv L dep) (Γ : Gx prog w p loose mean mg mb Φ dep) (O : EnvOk env) {gp cp : Pos} {es : List Expr} {a b c : Int} {f : Bool} {ds : List D} (hk : env.scope.names.lookup (Str.ofString "range") = some .globalImplicit) (I : EvsOk prog w A h₀ L env ρ es ([.int a, .int b, .int c], f))
    (e : rangeD a b c = some ds) : EvIOk prog w A h₀ L env ρ (.Call (.Name (Str.ofString "range") gp) es [] cp) ds := by
  have hc : c ≠ 0 ∧ log8 c = true := by
    unfold rangeD at e
    split at e
    · rename_i hq; exact ⟨hq.1, hq.2.1⟩
    · cases e
  exact rng_ok X Γ O hk I fun m fix fz s E Q vs G r P => by
    cases r with | cons va r => cases r with | cons vb r => cases r with | cons vc r => cases r; cases va; cases vb; cases vc; exact call_range_3 (w := w) hc.1 (range_itr X.hh (G.keep fun b x e => Heap.get?_push_of_some _ e) (IsRange.new ..) e fun I oI h' tk' add fp PP St G' ho' T' hl => P I oI h' tk' add fp PP St G' ho' T' hl) (.inl (noPy_of hc.2))
theorem rev_ok (X : Fx p loose mean mg mb A₀ A base h₀ outer fenv L dep) (Γ : Gx prog w p loose mean mg mb Φ dep) (O : EnvOk env) {gp cp : Pos} {x : Expr} {l : List D} (hk : env.scope.names.lookup (Str.ofString "reversed") = some .globalImplicit) (hn : notStar x = true) (I : EvOk prog w A h₀ L env ρ x (.lst l, true)) :
    EvIOk prog w A h₀ L env ρ (.Call (.Name (Str.ofString "reversed") gp) [x] [] cp) l.reverse := by
  intro m fix fz s E Q G H P
  have hs : [x].all notStar = true := by rw [List.all_cons, hn]; rfl
  refine Call_Name_ (global_sound O G X.T.g X.T.b hk (bnames_debug _ (by decide)) (.inr ⟨Γ.nob _ (by decide), (X.T.builtins _ (by decide)).trans reversed_boot⟩) ?_)
  refine PyProof.Rows.callWith_type (noStars hs _) (evalArgs_all hs (spliced_back_cons hn (I m fix fz s _ _ G H fun v h1 tk1 add1 G1 ho1 hr1 => spliced_nil ?_)))
  exact rev_itr X.hh G1 hr1 (P.next ho1)

theorem comp_turn {nm : Names} (O : EnvOk env) (hnm : env.scope.names = nm) {elt tgt iter : Expr} {ifs : List Expr} {sc : Scope} {β : Type} {xs : List β} {item : β → D} {bs : β → Rho} {t : β → Bool} {g : β → D}
    (hc : compScopeOk nm sc = true ∧ scopeKindOk sc = true ∧ notSet iter = true ∧ sc.names.all (fun x => !(x.1 == Str.ofString "__debug__")) = true) (hb : ∀ x ∈ xs, bindT sc tgt (item x) = some (bs x))
    (I1 : ∀ x ∈ xs, ∀ {env' : Env}, EnvOk env' → env'.scope.names = relN nm sc → EvAllOk prog w A h₀ L env' (bs x ++ freeRho sc ρ) ifs (t x)) (I2 : ∀ x ∈ xs, t x = true → ∀ {env' : Env}, EnvOk env' → env'.scope.names = relN nm sc → EvOk prog w A h₀ L env' (bs x ++ freeRho sc ρ) elt (g x, true))
    (cl : List (Str × Addr)) (hcl : ∀ n c, env.cells.lookup n = some c → (n, NameKind.free) ∈ sc.names → cl.lookup n = some c) (i : Nat) (d : D) (out : Option D) (hd : (xs.map item)[i]? = some d) (ho : (xs.map fun x => if t x = true then some (g x) else none)[i]? = some out) :
    TurnOk prog w A h₀ L env ρ sc cl tgt ifs elt d out := by
  subst hnm
  rw [List.getElem?_map] at hd ho
  obtain ⟨x, hx, rfl⟩ := Option.map_eq_some_iff.mp hd
  rw [hx] at ho
  cases ho
  have hm := List.mem_of_getElem? hx
  have hn : ∀ C, (compEnvC sc cl C env).scope.names = relN env.scope.names sc := fun C => rel_names O.k
  have O' : ∀ C, EnvOk (compEnvC sc cl C env) := fun C => O.comp hc.1 (eq_of_beq hc.2.1) hcl
  refine ⟨bs x, t x, hb x hm, fun C => ⟨I1 x hm (O' C) (hn C), fun ht => ⟨g x, if_pos ht, I2 x hm ht (O' C) (hn C)⟩, fun hf => if_neg (by rw [hf]; exact Bool.false_ne_true)⟩⟩

theorem outs_filter {β : Type} {t : β → Bool} {g : β → D} : ∀ xs : List β, (xs.map fun x => if t x = true then some (g x) else none).filterMap id = (xs.filter t).map g
  | [] => rfl
  | x :: xs => by
    rw [List.map_cons, List.filter_cons]
    cases h : t x with
    | true => exact congrArg (g x :: ·) (outs_filter xs)
    | false => exact outs_filter xs

noncomputable def JOk (prog : Program) (w : World) (A : Around) (h₀ : Heap) (L : Stk) (env : Env) (ρ : Rho) : Jd → Prop
  | .E e r => EvOk prog w A h₀ L env ρ e r
  | .S es ds f => EvsOk prog w A h₀ L env ρ es (ds, f)
  | .P e k => EvPOk prog w A h₀ L env ρ e k
  | .T e b => EvTOk prog w A h₀ L env ρ e b
  | .C a ops rs b => EvCOk prog w A h₀ L env ρ a ops rs b
  | .A es b => EvAllOk prog w A h₀ L env ρ es b
  | .O es b => EvAnyOk prog w A h₀ L env ρ es b
  | .I e ds => EvIOk prog w A h₀ L env ρ e ds

theorem ev_sound (X : Fx p loose mean mg mb A₀ A base h₀ outer fenv L dep) (Γ : Gx prog w p loose mean mg mb Φ dep) {nm : Names} {j : Jd} (h : Ev Φ nm ρ j) : ∀ {env : Env}, EnvOk env → env.scope.names = nm → JOk prog w A h₀ L env ρ j := by
  have hu : A.units + 64 < cLine := by have := X.units; (first | lia | omega)
  induction h with
  | n hg => exact fun O _ m fix fz s E Q G H P => (get_sound (pos := default) O G H hg P).elim fun hd h => wpAny_Name h hd
  | g _ hk hc =>
    intro env O e m fix fz s E Q G H P
    obtain ⟨hd, t, hv⟩ := Γ.cst _ _ hc
    exact global_sound O G X.T.g X.T.b (by unfold Env.kindOf; rw [e]; exact hk) hd (.inl hv) (P.here0 G (RepR.int ..))
  | i => exact fun _ _ m fix fz s E Q G H P => wpAny_Constant_int (P.here G (RepR.int ..))
  | b => exact fun _ _ m fix fz s E Q G H P => Constant_bool (P.here0 G (RepR.bool ..))
  | bin _ _ e I1 I2 => exact fun O n => bin_ok (I1 O n) (I2 O n) e
  | un _ e I1 => exact fun O n m fix fz s E Q G H P => UnaryOp_ (I1 O n m fix fz s _ _ G H fun v h1 tk1 add1 G1 ho1 hr1 => uop_sound G1 hr1 e (P.next ho1))
  | ift _ hv _ I1 I2 => subst hv; intro env O n; exact ift_ok (I1 O n) (I2 O n)
  | iff _ hv _ I1 I2 => subst hv; intro env O n; exact ift_ok (I1 O n) (I2 O n)
  | cmp hn _ _ e I1 I2 => exact fun O n => cmp_ok hu hn (I1 O n) (I2 O n) e
  | lst _ e I => exact fun O n => lst_ok (I O n) e
  | tup _ hl hf I => exact fun O n => tup_ok (I O n) hl hf
  | sub hi _ _ e I1 I2 => exact fun O n => sub_ok hi (I1 O n) (I2 O n) e
  | sl _ _ _ _ ht hp e I0 I1 I2 I3 => subst hp; intro env O n; exact slice_ok (I0 O n) (I1 O n) (I2 O n) (I3 O n) ht e
  | callf hk _ hf hd I => subst hf; intro env O n; exact callf_ok X Γ O (n ▸ hk) (I O n) hd
  | callb hk _ hb I => exact fun O n => callb_ok X Γ O (n ▸ hk) (I O n) hb
  | bits ha hp _ I => exact fun O n => bits_ok ha hp (I O n)
  | comp hc _ hb _ _ I0 I1 I2 =>
    intro env O n
    rw [← outs_filter]
    exact comp_sound X.hh O (n ▸ hc.1) (eq_of_beq hc.2.1) hc.2.2.2 hc.2.2.1 (I0 O n) ((List.length_map _).trans (List.length_map _).symm) (comp_turn O n hc hb (fun x hx => I1 x hx) (fun x hx ht => I2 x hx ht))
  | s_nil => exact fun _ _ => ⟨rfl, fun pos m fix fz s E Q G H P => spliced_nil (P.here0 G .nil)⟩
  | s_cons hs _ _ I1 I2 => exact fun O n => evs_ok hs (I1 O n) (I2 O n)
  | p_none => exact fun _ _ m fix fz s E Q G H P => wpAny_pure (P.here0 G rfl)
  | p_some _ I => exact fun O n => evP_ok (I O n)
  | t_not _ I => exact fun O n => evT_not (I O n)
  | t_and _ I => exact fun O n m fix fz s E Q G H P => wpAny_isTrue_BoolOp ((I O n).1 m fix fz s _ _ G H P)
  | t_or _ I => exact fun O n m fix fz s E Q G H P => wpAny_isTrue_BoolOp (I O n m fix fz s _ _ G H P)
  | t_cmp _ _ I1 I2 => exact fun O n => evT_cmp (I1 O n) (I2 O n)
  | t_name _ e I => exact fun O n => evT_plain (I O n) e rfl
  | t_call _ e I => exact fun O n => evT_plain (I O n) e rfl
  | t_bin _ e I => exact fun O n => evT_plain (I O n) e rfl
  | t_sub _ e I => exact fun O n => evT_plain (I O n) e rfl
  | k_one hs _ e I => exact fun O n => evC_one hu hs (I O n) e
  | k_two hs hs2 _ e _ I1 I2 => exact fun O n => evC_two hu hs hs2 (I1 O n) e (I2 O n)
  | a_nil => exact fun _ _ => ⟨fun m fix fz s E Q G H P => wpAny_allTrue_And_nil (P.here0 G rfl), fun m fix fz s E Q G H P => wpAny_pure (P.here0 G rfl)⟩
  | a_cons _ _ I1 I2 => exact fun O n => evAll_ok (I1 O n) (I2 O n)
  | o_nil => exact fun _ _ m fix fz s E Q G H P => wpAny_allTrue_Or_nil (P.here0 G rfl)
  | o_cons _ _ I1 I2 => exact fun O n => evAny_ok (I1 O n) (I2 O n)
  | i_lst _ I => exact fun O n m fix fz s E Q G H P => I O n m fix fz s _ _ G H fun v h1 tk1 add1 G1 ho1 hr1 => list_itr X.hh G1 hr1 (P.next ho1)
  | i_rev hk hs _ I => exact fun O n => rev_ok X Γ O (n ▸ hk) hs (I O n)
  | i_rng hk _ e I => exact fun O n => rng1_ok X Γ O (n ▸ hk) (I O n) e
  | i_rng3 hk _ e I => exact fun O n => rng3_ok X Γ O (n ▸ hk) (I O n) e
theorem evE (X : Fx p loose mean mg mb A₀ A base h₀ outer fenv L dep) (Γ : Gx prog w p loose mean mg mb Φ dep) {x : Expr} {r : R} (O : EnvOk env) (h : Ev Φ env.scope.names ρ (.E x r)) : EvOk prog w A h₀ L env ρ x r := ev_sound X Γ h O rfl
theorem evT (X : Fx p loose mean mg mb A₀ A base h₀ outer fenv L dep) (Γ : Gx prog w p loose mean mg mb Φ dep) {x : Expr} {r : Bool} (O : EnvOk env) (h : Ev Φ env.scope.names ρ (.T x r)) : EvTOk prog w A h₀ L env ρ x r := ev_sound X Γ h O rfl
theorem evI (X : Fx p loose mean mg mb A₀ A base h₀ outer fenv L dep) (Γ : Gx prog w p loose mean mg mb Φ dep) {x : Expr} {ds : List D} (O : EnvOk env) (h : Ev Φ env.scope.names ρ (.I x ds)) : EvIOk prog w A h₀ L env ρ x ds := ev_sound X Γ h O rfl
end
end
section -- MO
/-! ## the names of a frame -/
noncomputable def upd : Rho → Str → Slot → Rho
  | [], _, _ => []
  | (y, t) :: r, x, sl => if x == y then (y, sl) :: r else (y, t) :: upd r x sl
noncomputable def slotV : Slot → D → Slot
  | .cel _, d => .cel (some d)
  | _, d => .val d
noncomputable def isFre : Slot → Bool
  | .fre _ => true
  | _ => false
noncomputable def setV (ρ : Rho) (x : Str) (d : D) : Option Rho := (ρ.lookup x).bind fun t => if isFre t = true then none else some (upd ρ x (slotV t d))
theorem setV_some {ρ ρ' : Rho} {x : Str} {d : D} (e : setV ρ x d = some ρ') : ∃ t, ρ.lookup x = some t ∧ isFre t = false ∧ ρ' = upd ρ x (slotV t d) := by
  obtain ⟨t, ht, e⟩ := Option.bind_eq_some_iff.mp e
  cases hf : isFre t with
  | true => rw [hf] at e; simp at e
  | false => rw [hf] at e; simp at e; exact ⟨t, ht, hf, e.symm⟩
theorem setV_of {ρ : Rho} {x : Str} {d : D} {t : Slot} (h : ρ.lookup x = some t) (hf : isFre t = false) : setV ρ x d = some (upd ρ x (slotV t d)) := by
  unfold setV; rw [h]; simp [hf]

theorem upd_keys : ∀ (ρ : Rho) (x : Str) (sl : Slot), (upd ρ x sl).map (·.1) = ρ.map (·.1)
  | [], _, _ => rfl
  | (y, t) :: r, x, sl => by
    unfold upd
    split
    · rfl
    · rw [List.map_cons, List.map_cons, upd_keys r x sl]
theorem upd_comm : ∀ (ρ : Rho) (x y : Str) (a b : Slot), x ≠ y → upd (upd ρ x a) y b = upd (upd ρ y b) x a
  | [], _, _, _, _, _ => rfl
  | (z, t) :: r, x, y, a, b, h => by
    simp only [upd]
    by_cases h1 : x = z
    · subst h1
      have h2 : (y == x) = false := by simpa using Ne.symm h
      simp [upd, h2]
    · have h1' : (x == z) = false := by simpa using h1
      by_cases h2 : y = z
      · subst h2; simp [upd, h1']
      · have h2' : (y == z) = false := by simpa using h2
        simp [upd, h1', h2', upd_comm r x y a b h]
theorem lookup_upd_ne : ∀ (ρ : Rho) (x y : Str) (a : Slot), x ≠ y → (upd ρ x a).lookup y = ρ.lookup y
  | [], _, _, _, _ => rfl
  | (z, t) :: r, x, y, a, h => by
    unfold upd
    by_cases h1 : x = z
    · subst h1
      have h2 : (y == x) = false := by simpa using Ne.symm h
      simp [List.lookup_cons, h2]
    · have h1' : (x == z) = false := by simpa using h1
      simp only [h1', Bool.false_eq_true, if_false, List.lookup_cons, lookup_upd_ne r x y a h]
theorem setV_ne {ρ ρ' : Rho} {x y : Str} {d : D} (e : setV ρ x d = some ρ') (h : x ≠ y) : ρ'.lookup y = ρ.lookup y := by
  obtain ⟨t, _, _, rfl⟩ := setV_some e
  exact lookup_upd_ne _ _ _ _ h
theorem setV_comm {ρ ρ₁ ρ₂ : Rho} {x y : Str} {d e : D} (h : x ≠ y) (h1 : setV ρ x d = some ρ₁) (h2 : setV ρ₁ y e = some ρ₂) : ∃ ρ₃, setV ρ y e = some ρ₃ ∧ setV ρ₃ x d = some ρ₂ := by
  have hy := setV_ne h1 h
  obtain ⟨t, ht, hf, rfl⟩ := setV_some h1
  obtain ⟨t', ht', hf', rfl⟩ := setV_some h2
  rw [hy] at ht'
  have h3 : setV ρ y e = some (upd ρ y (slotV t' e)) := setV_of ht' hf'
  refine ⟨_, h3, ?_⟩
  have hx := setV_ne h3 (Ne.symm h)
  rw [setV_of (hx.trans ht) hf, upd_comm _ _ _ _ _ h]

noncomputable def Al1 (h₀ : Heap) (fz : Led) (env : Env) (m : Str → Option Value) (x : Str) : Slot → Led → Prop
  | .unset, l => l = [] ∧ env.kindOf x = some .local
  | .val d, l => l = [] ∧ env.kindOf x = some .local ∧ ∃ v, m x = some v ∧ Rep h₀ fz v d
  | .own ds, l => env.kindOf x = some .local ∧ ∃ a vs n, l = [(a, lo vs n)] ∧ m x = some (.ref a) ∧ vs.length ≤ line24 ∧ Reps h₀ fz vs ds
  | .cel d, l => env.kindOf x = some .cell ∧ ∃ c o ov, l = [(c, o)] ∧ env.cells.lookup x = some c ∧ o.data = .cell ov ∧ ∀ d', d = some d' → ∃ v, ov = some v ∧ Rep h₀ fz v d'
  | .raw v, l => l = [] ∧ env.kindOf x = some .local ∧ m x = some v
  | .fre d, l => l = [] ∧ (env.kindOf x = some .free ∨ env.kindOf x = some .cell) ∧ (x == ("__classdict__" : Str)) = false ∧ ∃ c o v, env.cells.lookup x = some c ∧ (c, o) ∈ fz ∧ o.data = .cell (some v) ∧ Rep h₀ fz v d

inductive Als (h₀ : Heap) (fz : Led) (env : Env) (m : Str → Option Value) : Rho → Led → Prop
  | nil : Als h₀ fz env m [] []
  | cons {x sl l r fx} : (x == ("__debug__" : Str)) = false → Al1 h₀ fz env m x sl l → Als h₀ fz env m r fx → Als h₀ fz env m ((x, sl) :: r) (l ++ fx)

structure Al (h₀ : Heap) (fz : Led) (env : Env) (m : Str → Option Value) (ρ : Rho) (fx : Led) : Prop where
  nd : (ρ.map (·.1)).Nodup
  all : Als h₀ fz env m ρ fx

section
variable {h₀ : Heap} {fz fz' : Led} {env : Env} {m m' : Str → Option Value} {ρ : Rho} {fx : Led} {x : Str} {sl : Slot} {l : Led} {L : Stk}

theorem Al1.grow (hm : m' x = m x) (hz : ∀ p ∈ fz, p ∈ fz') (h : Al1 h₀ fz env m x sl l) : Al1 h₀ fz' env m' x sl l := by
  cases sl with
  | unset => exact h
  | val d => obtain ⟨h1, h2, v, h3, h4⟩ := h; exact ⟨h1, h2, v, hm ▸ h3, h4.sub hz⟩
  | own ds => obtain ⟨h1, a, vs, n, h2, h3, h4, h5⟩ := h; exact ⟨h1, a, vs, n, h2, hm ▸ h3, h4, h5.sub hz⟩
  | cel d =>
    obtain ⟨h1, c, o, ov, h2, h3, h4, h5⟩ := h
    exact ⟨h1, c, o, ov, h2, h3, h4, fun d' e => by obtain ⟨v, e1, e2⟩ := h5 d' e; exact ⟨v, e1, e2.sub hz⟩⟩
  | raw v => exact ⟨h.1, h.2.1, hm ▸ h.2.2⟩
  | fre d =>
    obtain ⟨h0, h1, h2, c, o, v, h3, h4, h5, r⟩ := h
    exact ⟨h0, h1, h2, c, o, v, h3, hz _ h4, h5, r.sub hz⟩
theorem Als.grow (hm : ∀ y, y ∈ ρ.map (·.1) → m' y = m y) (hz : ∀ p ∈ fz, p ∈ fz') (h : Als h₀ fz env m ρ fx) : Als h₀ fz' env m' ρ fx := by
  induction h with
  | nil => exact .nil
  | cons hd h1 _ ih => exact .cons hd (h1.grow (hm _ List.mem_cons_self) hz) (ih fun y hy => hm y (List.mem_cons_of_mem _ hy))
theorem Al.grow (h : Al h₀ fz env m ρ fx) (add : Led) : Al h₀ (add ++ fz) env m ρ fx := ⟨h.nd, h.all.grow (fun _ _ => rfl) fun p hp => List.mem_append_right _ hp⟩

theorem Als.split (h : Als h₀ fz env m ρ fx) (nd : (ρ.map (·.1)).Nodup) (hx : ρ.lookup x = some sl) :
    (x == ("__debug__" : Str)) = false ∧ ∃ p1 l p2, fx = p1 ++ (l ++ p2) ∧ Al1 h₀ fz env m x sl l ∧ ∀ m' fz' sl' l', (∀ y, y ≠ x → m' y = m y) → (∀ p ∈ fz, p ∈ fz') → Al1 h₀ fz' env m' x sl' l' → Als h₀ fz' env m' (upd ρ x sl') (p1 ++ (l' ++ p2)) := by
  induction h with
  | nil => simp at hx
  | @cons y t l r fx hd h1 hr ih =>
    rw [List.map_cons, List.nodup_cons] at nd
    rw [List.lookup_cons] at hx
    by_cases hxy : x = y
    · subst hxy
      simp at hx
      subst hx
      refine ⟨hd, [], l, fx, by simp, h1, fun m' fz' sl' l' hm hz h1' => ?_⟩
      unfold upd
      simp only [beq_self_eq_true, if_true, List.nil_append]
      exact .cons hd h1' (hr.grow (fun z hz' => hm z fun e => nd.1 (e ▸ hz')) hz)
    · have hb : (x == y) = false := by simpa using hxy
      rw [hb] at hx
      obtain ⟨hd', p1, l1, p2, e, h2, k⟩ := ih nd.2 hx
      refine ⟨hd', l ++ p1, l1, p2, by rw [e, List.append_assoc], h2, fun m' fz' sl' l' hm hz h1' => ?_⟩
      unfold upd
      rw [hb, List.append_assoc]
      exact .cons hd (h1.grow (hm y (Ne.symm hxy)) hz) (k m' fz' sl' l' hm hz h1')

theorem Als.rho (h : Als h₀ fz env m ρ fx) (hl : env.locals = L.a) (ext : Led) : RhoOk h₀ L m (fx ++ ext) fz env ρ := by
  induction h with
  | nil => intro x sl hx; simp at hx
  | @cons y t l r fx hd h1 hr ih =>
    intro x sl hx
    rw [List.lookup_cons] at hx
    by_cases hxy : x = y
    · subst hxy
      simp at hx
      subst hx
      refine ⟨hd, ?_⟩
      cases t with
      | unset => trivial
      | val d => obtain ⟨h1, h2, v, h3, h4⟩ := h1; exact ⟨v, .loc hl h2 h3, h4⟩
      | own ds => obtain ⟨h1, a, vs, n, h2, h3, h4, h5⟩ := h1; subst h2; exact ⟨a, vs.toArray, n, .loc hl h1 h3, by simp, by rw [List.size_toArray]; exact h4, h5⟩
      | cel d =>
        obtain ⟨h1, c, o, ov, h2, h3, h4, h5⟩ := h1
        subst h2
        cases d with
        | none => trivial
        | some d => obtain ⟨v, e1, e2⟩ := h5 d rfl; exact ⟨v, .cell h1 h3 (List.mem_append_left _ (List.mem_append_left _ List.mem_cons_self)) (by rw [h4, e1]), e2⟩
      | raw _ => trivial
      | fre d => exact h1.2
    · have hb : (x == y) = false := by simpa using hxy
      rw [hb] at hx
      obtain ⟨a, b⟩ := ih x sl hx
      refine ⟨a, ?_⟩
      have hs : ∀ p ∈ fx ++ ext, p ∈ l ++ fx ++ ext := fun p hp => by rw [List.append_assoc]; exact List.mem_append_right _ hp
      have src : ∀ {v}, Src L m (fx ++ ext) env x v → Src L m (l ++ fx ++ ext) env x v := fun S => by
        cases S with
        | loc a b c => exact .loc a b c
        | cell a b c d => exact Src.cell a b (hs _ c) d
        | cmp a b c d => exact Src.cmp (hs _ a) b c d
      cases sl with
      | unset => trivial
      | val d => obtain ⟨v, h1, h2⟩ := b; exact ⟨v, src h1, h2⟩
      | own ds => obtain ⟨a, vs, n, h1, h2, h3⟩ := b; exact ⟨a, vs, n, src h1, hs _ h2, h3⟩
      | cel d =>
        cases d with
        | none => trivial
        | some d => obtain ⟨v, h1, h2⟩ := b; exact ⟨v, src h1, h2⟩
      | raw _ => trivial
      | fre d => exact b

noncomputable def frozS : Slot → Slot
  | .own l => .val (.lst l)
  | sl => sl
noncomputable def froz (ρ : Rho) : Rho := ρ.map fun (x, sl) => (x, frozS sl)
theorem froz_keys (ρ : Rho) : (froz ρ).map (·.1) = ρ.map (·.1) := by
  unfold froz
  rw [List.map_map]
  apply List.map_congr_left
  rintro ⟨x, sl⟩ _
  cases sl <;> rfl
theorem Als.froz (h : Als h₀ fz env m ρ fx) : ∃ add kp, fx.Perm (add ++ kp) ∧ ∀ fz', (∀ p ∈ fz, p ∈ fz') → (∀ p ∈ add, p ∈ fz') → Als h₀ fz' env m (Mine.froz ρ) kp := by
  induction h with
  | nil => exact ⟨[], [], .refl _, fun _ _ _ => .nil⟩
  | @cons y t l r fx hd h1 hr ih =>
    obtain ⟨add, kp, p, k⟩ := ih
    by_cases ho : ∃ ds, t = .own ds
    · obtain ⟨ds, rfl⟩ := ho
      obtain ⟨h1, a, vs, n, h2, h3, h4, h5⟩ := h1
      subst h2
      refine ⟨(a, lo vs n) :: add, kp, by simpa using p, fun fz' hz ha => ?_⟩
      refine .cons (l := []) hd ⟨rfl, h1, _, h3, ?_⟩ (k fz' hz fun p hp => ha p (List.mem_cons_of_mem _ hp))
      exact .lst (.inr (ha _ List.mem_cons_self)) rfl rfl (by rw [List.size_toArray]; exact h4) (h5.sub hz)
    · refine ⟨add, l ++ kp, ?_, fun fz' hz ha => ?_⟩
      · refine (p.append_left l).trans ?_
        rw [← List.append_assoc, ← List.append_assoc]
        exact List.Perm.append_right _ List.perm_append_comm
      · have : Mine.froz ((y, t) :: r) = (y, t) :: Mine.froz r := by
          cases t <;> first | rfl | exact absurd ⟨_, rfl⟩ ho
        rw [this]
        exact .cons hd (h1.grow rfl hz) (k fz' hz ha)
end

theorem isFre_raw (v : Value) : isFre (.raw v) = false := rfl
theorem frozS_raw (v : Value) : frozS (.raw v) = .raw v := rfl
theorem isFre_unset : isFre .unset = false := rfl
theorem isFre_val (d : D) : isFre (.val d) = false := rfl
theorem isFre_own (l : List D) : isFre (.own l) = false := rfl
theorem isFre_cel (d : Option D) : isFre (.cel d) = false := rfl
theorem isFre_fre (d : D) : isFre (.fre d) = true := rfl
theorem slotV_unset (d : D) : slotV .unset d = .val d := rfl
theorem slotV_val (e d : D) : slotV (.val e) d = .val d := rfl
theorem slotV_own (l : List D) (d : D) : slotV (.own l) d = .val d := rfl
theorem slotV_cel (e : Option D) (d : D) : slotV (.cel e) d = .cel (some d) := rfl
theorem frozS_unset : frozS .unset = .unset := rfl
theorem frozS_val (d : D) : frozS (.val d) = .val d := rfl
theorem frozS_own (l : List D) : frozS (.own l) = .val (.lst l) := rfl
theorem frozS_cel (d : Option D) : frozS (.cel d) = .cel d := rfl
theorem frozS_fre (d : D) : frozS (.fre d) = .fre d := rfl
end
section -- MP
section
variable {prog : Program} {w : World} {A : Around} {E : Value → Shared → Prop} {s : Shared} {h₀ : Heap} {L : Stk} {m : Str → Option Value} {fx ext fz : Led} {env : Env} {ρ ρ' : Rho}

theorem mapSeq_of (f : Array Value → Array Value) (its : Array Value) (n : Nat) : ∃ n', Obj.mapSeq f { cls := .type "list", data := .seq its n } = { cls := .type "list", data := .seq (f its) n' } := ⟨_, by simp [Obj.mapSeq]; rfl⟩

/-- a place of a list is set -/
theorem set_at {D : Addr} {its : Array Value} {n j : Nat} {k : Int} {t : Tok} {v : Value} {Q : Unit → Shared → Prop} (ho : s.heap.get? D = some { cls := .type "list", data := .seq its n })
    (hk : (0 ≤ k ∧ k < its.size ∧ j = k.toNat) ∨ (k < 0 ∧ -(its.size : Int) ≤ k ∧ j = (k + its.size).toNat)) (hz : its.size ≤ line24)
    (h : ∀ h' n', Heap.SameBut D s.heap h' → h'.get? D = some { cls := .type "list", data := .seq (its.setIfInBounds j v) n' } → Q () { s with heap := h' }) :
    wpAny (model prog w) A (setItem (.ref D) (.int k t) v) Q E s := by
  have hfit := line24_fit hz
  have hl : s.heap.IsList D its := ⟨_, ho, rfl, _, rfl⟩
  unfold setItem
  try with_reducible refine wpAny_holding ?_
  first | refine wpAny_bind (wpAny_pure ?_) | skip
  refine wpAny_bind (wpAny_sequenceKey hl.typeIs (by decide) ?_)
  refine wpAny_bind (wpAny_callSpecial?_slot (name := Str.ofString "__setitem__") hl.typeIs slot_list_setitem
    (wpAny_call_entry slot_list_setitem hl.typeIs entry_list_setitem ?_ (args_list_setitem _ _ _)))
  show wpAny _ _ (Builtin.List.listSubscript? (.int k t) >>= _) _ _ s
  have hj : j < its.size := by (first | lia | omega)
  have hx' : its[j]? = some its[j] := Array.getElem?_eq_getElem hj
  have fin : Q () { s with heap := s.heap.update D (Obj.mapSeq (·.setIfInBounds j v)) } := by
    obtain ⟨n', hd'⟩ := mapSeq_of (·.setIfInBounds j v) its n
    refine h _ n' (Heap.SameBut.update ..) ?_
    rw [Heap.get?_update_self _ ho (by rw [hd']; rfl), hd']
  rcases hk with ⟨h0, h1, e⟩ | ⟨h0, h1, e⟩
  · refine wpAny_bind (wpAny_listSubscript_int (fitsIndex_of h0 (by (first | lia | omega))) ?_)
    obtain ⟨i, rfl⟩ := Int.eq_ofNat_of_zero_le h0
    have : j = i := e
    subst this
    show wpAny _ _ ((seqItemAt D j >>= fun r => pure (r.map (j, ·))) >>= _) _ _ s
    refine wpAny_bind (wpAny_bind (wpAny_seqItemAt ho rfl (wpAny_pure ?_)))
    rw [hx']
    show wpAny _ _ (setSeqItemAt D j v >>= _) _ _ s
    refine wpAny_bind (wpAny_setSeqItemAt ho rfl ?_)
    first
      | exact wpAny_bind (wpAny_pure (wpAny_pure ⟨.none, rfl, wpAny_pure fin⟩))
      | exact wpAny_pure ⟨.none, rfl, wpAny_pure fin⟩
  · refine wpAny_bind (wpAny_listSubscript_int (fitsIndex_neg h0 (by (first | lia | omega))) ?_)
    have hidx := seqIndex_neg h0 h1
    rw [← e] at hidx
    obtain ⟨i, rfl⟩ : ∃ i : Nat, k = Int.negSucc i := by
      cases k with
      | ofNat n => exact absurd h0 (Int.not_lt.mpr (Int.natCast_nonneg n))
      | negSucc n => exact ⟨n, rfl⟩
    show wpAny _ _ ((Builtin.List.listItems (.ref D) >>= fun xs => pure ((seqIndex? (Int.negSucc i) xs.size).bind fun i => xs[i]?.map (i, ·))) >>= _) _ _ s
    refine wpAny_bind (wpAny_bind ?_)
    show wpAny _ _ (seqItems? (.ref D) >>= _) _ _ s
    refine wpAny_bind (wpAny_seqItems ho rfl (wpAny_pure (wpAny_pure ?_)))
    rw [hidx]
    simp only [Option.bind_some, hx', Option.map_some]
    show wpAny _ _ (setSeqItemAt D j v >>= _) _ _ s
    refine wpAny_bind (wpAny_setSeqItemAt ho rfl ?_)
    first
      | exact wpAny_bind (wpAny_pure (wpAny_pure ⟨.none, rfl, wpAny_pure fin⟩))
      | exact wpAny_pure ⟨.none, rfl, wpAny_pure fin⟩

theorem extend_at {D b : Addr} {its us : Array Value} {n : Nat} {Q : Value → Shared → Prop} (ho : s.heap.get? D = some { cls := .type "list", data := .seq its n }) (hb : s.heap.IsList b us) (hz : its.size + us.size ≤ line24)
    (h : ∀ h' n', Heap.SameBut D s.heap h' → h'.get? D = some { cls := .type "list", data := .seq (its ++ us) n' } → Q .none { s with heap := h' }) :
    wpAny (model prog w) A (call (.builtin "list.extend") [.ref D, .ref b]) Q E s := by
  obtain ⟨⟨cls, d, data, sl⟩, hob, hcl, k, hd⟩ := id hb
  simp only at hcl hd
  subst hcl hd
  have := line24_le
  obtain ⟨n', hd'⟩ := mapSeq_of (fun x => x ++ us) its n
  refine call_meets PySem.F.slot_list_extend ⟨_, ho, rfl⟩ PySem.F.entry_list_extend (PySem.F.args_list_extend_2 _ _)
    (list_extend_any D its n b us k d sl (by simp [Builtin.List.listTooLong, sizeLine]; intro _; unfold line24 at hz; (first | lia | omega)) (by (first | lia | omega)) (by (first | lia | omega))) ⟨ho, hob, ?_⟩
  refine h _ n' (Heap.SameBut.update ..) ?_
  rw [Heap.get?_update_self _ ho (by rw [hd']; rfl), hd']

theorem reverse_at {D : Addr} {its : Array Value} {n : Nat} {Q : Value → Shared → Prop} (ho : s.heap.get? D = some { cls := .type "list", data := .seq its n }) (hz : its.size ≤ line24)
    (h : ∀ h' n', Heap.SameBut D s.heap h' → h'.get? D = some { cls := .type "list", data := .seq its.toList.reverse.toArray n' } → Q .none { s with heap := h' }) :
    wpAny (model prog w) A (call (.builtin "list.reverse") [.ref D]) Q E s := by
  refine call_meets PySem.F.slot_list_reverse ⟨_, ho, rfl⟩ PySem.F.entry_list_reverse (PySem.F.args_list_reverse_1 _) (AutoSeq1.list_reverse_list_0 D its n (Nat.le_trans hz line24_le)) ⟨ho, ?_⟩
  refine h _ n (Heap.SameBut.update ..) ?_
  rw [Heap.get?_update_self _ ho (by rw [mapSeq_reverse]; rfl), mapSeq_reverse]

/-! ## storing names -/
structure FE (env : Env) (L : Stk) : Prop where
  O : EnvOk env
  hl : env.locals = L.a

theorem FE.hp (X : FE env L) : (env.scope.kind == .class || (env.scope.kind == .module && env.locals != env.globals)) = false := by rw [X.O.k]; rfl
theorem slot_local {x : Str} {sl : Slot} {l : Led} (h : Al1 h₀ fz env m x sl l) (hc : ∀ d, sl ≠ .cel d) (hf : isFre sl = false) : env.kindOf x = some .local := by
  cases sl with
  | unset => exact h.2
  | val d => exact h.2.1
  | own ds => exact h.1
  | cel d => exact absurd rfl (hc d)
  | fre d => cases hf
  | raw v => exact h.2.1

theorem led_swap (p1 l p2 ext : Led) : (p1 ++ (l ++ p2) ++ ext).Perm (l ++ (p1 ++ p2 ++ ext)) := by
  have e1 : p1 ++ (l ++ p2) ++ ext = (p1 ++ l) ++ (p2 ++ ext) := by simp
  have e2 : l ++ (p1 ++ p2 ++ ext) = (l ++ p1) ++ (p2 ++ ext) := by simp
  rw [e1, e2]
  exact List.Perm.append_right _ List.perm_append_comm

theorem store_sound {x : Str} {v : Value} {d : D} {Q : Unit → Shared → Prop} (X : FE env L) (H : Al h₀ fz env m ρ fx) (G : Lg h₀ L m (fx ++ ext) fz s.heap) (hx : setV ρ x d = some ρ') (r : Rep h₀ fz v d)
    (h : ∀ h' tk' m' fx', Lg h₀ L m' (fx' ++ ext) fz h' → Al h₀ fz env m' ρ' fx' → Q () { s with heap := h', toks := tk' }) : wpAny (model prog w) A (storeName env x v) Q E s := by
  obtain ⟨t, ht, hfr, rfl⟩ := setV_some hx
  obtain ⟨hd, p1, l, p2, rfl, h1, k⟩ := H.all.split H.nd ht
  have nd' : ((upd ρ x (slotV t d)).map (·.1)).Nodup := by rw [upd_keys]; exact H.nd
  by_cases hc : ∃ d', t = .cel d'
  · obtain ⟨d', rfl⟩ := hc
    obtain ⟨hk, c, o, ov, rfl, hcl, hod, hv⟩ := h1
    have e : p1 ++ ([(c, o)] ++ p2) ++ ext = p1 ++ (c, o) :: (p2 ++ ext) := by simp
    rw [e] at G
    refine wpAny_storeName_cell X.O.k hk hcl ⟨o, G.fixed (by simp), hod⟩ fun h' hv' hs => ?_
    obtain ⟨o', ho', hd'⟩ := hv'
    have G' : Lg h₀ L m (p1 ++ (c, o') :: (p2 ++ ext)) fz h' := G.replace (fun b x hb ex => hs.extBut b x hb ex) ho'
    refine h h' _ m (p1 ++ ([(c, o')] ++ p2)) (by simpa using G') ⟨nd', ?_⟩
    exact k m fz _ _ (fun _ _ => rfl) (fun _ h => h) ⟨hk, c, o', some v, rfl, hcl, hd', fun d2 e2 => by cases e2; exact ⟨v, rfl, r⟩⟩
  · have hkl := slot_local h1 (fun d' e => hc ⟨d', e⟩) hfr
    have hsl : slotV t d = .val d := by cases t <;> first | rfl | exact absurd ⟨_, rfl⟩ hc
    rw [hsl] at nd' h
    have G2 : Lg h₀ L m (p1 ++ p2 ++ ext) fz s.heap := (G.perm (led_swap p1 l p2 ext)).drop
    refine wpAny_storeName_local hkl (X.hl ▸ G2.F.ns) (fun h3 hn3 hs3 => ?_) X.hp
    rw [X.hl] at hn3 hs3
    have G3 := G2.frame hs3 hn3
    refine h h3 _ _ (p1 ++ ([] ++ p2)) (by simpa using G3) ⟨nd', ?_⟩
    exact k _ fz _ [] (fun y hy => by simp [hy]) (fun _ h => h) ⟨rfl, hkl, v, by simp, r⟩

noncomputable def isLoc (ρ : Rho) (x : Str) : Bool := match ρ.lookup x with
  | some (.cel _) => false
  | some (.fre _) => false
  | some _ => true
  | none => false
theorem store_own {x : Str} {a : Addr} {vs : List Value} {n : Nat} {ds : List D} {Q : Unit → Shared → Prop} (X : FE env L) (H : Al h₀ fz env m ρ fx) (G : Lg h₀ L m ((a, lo vs n) :: (fx ++ ext)) fz s.heap) (hx : isLoc ρ x = true) (hz : vs.length ≤ line24) (r : Reps h₀ fz vs ds)
    (h : ∀ h' tk' m' fx', Lg h₀ L m' (fx' ++ ext) fz h' → Al h₀ fz env m' (upd ρ x (.own ds)) fx' → Q () { s with heap := h', toks := tk' }) : wpAny (model prog w) A (storeName env x (.ref a)) Q E s := by
  unfold isLoc at hx
  split at hx
  · cases hx
  · cases hx
  · rename_i t ht hnf hc
    obtain ⟨hd, p1, l, p2, rfl, h1, k⟩ := H.all.split H.nd hc
    have hkl := slot_local h1 (fun d' e => by subst e; exact ht _ rfl) (by cases t <;> first | rfl | exact absurd rfl (hnf _))
    have pm : ((a, lo vs n) :: (p1 ++ (l ++ p2) ++ ext)).Perm (l ++ ((a, lo vs n) :: (p1 ++ p2 ++ ext))) := ((led_swap p1 l p2 ext).cons _).trans List.perm_middle.symm
    have G2 : Lg h₀ L m ((a, lo vs n) :: (p1 ++ p2 ++ ext)) fz s.heap := (G.perm pm).drop
    have G2' : Lg h₀ L m (p1 ++ ([(a, lo vs n)] ++ p2) ++ ext) fz s.heap := G2.perm (by simpa using (led_swap p1 [(a, lo vs n)] p2 ext).symm)
    refine wpAny_storeName_local hkl (X.hl ▸ G2.F.ns) (fun h3 hn3 hs3 => ?_) X.hp
    rw [X.hl] at hn3 hs3
    have G3 := G2'.frame hs3 hn3
    refine h h3 _ _ _ G3 ⟨by rw [upd_keys]; exact H.nd, ?_⟩
    exact k _ fz _ _ (fun y hy => by simp [hy]) (fun _ h => h) ⟨hkl, a, vs, n, rfl, by simp, hz, r⟩
  · cases hx

/-- an own list is changed where it lies -/
theorem own_change {x : Str} {ds : List D} (H : Al h₀ fz env m ρ fx) (hx : ρ.lookup x = some (.own ds)) :
    (x == ("__debug__" : Str)) = false ∧ ∃ a vs n p1 p2, fx = p1 ++ ([(a, lo vs n)] ++ p2) ∧ env.kindOf x = some .local ∧ m x = some (.ref a) ∧ vs.length ≤ line24 ∧ Reps h₀ fz vs ds ∧
      ∀ fz' vs' n' ds', (∀ p ∈ fz, p ∈ fz') → vs'.length ≤ line24 → Reps h₀ fz' vs' ds' → Al h₀ fz' env m (upd ρ x (.own ds')) (p1 ++ ([(a, lo vs' n')] ++ p2)) := by
  obtain ⟨hd, p1, l, p2, rfl, h1, k⟩ := H.all.split H.nd hx
  obtain ⟨hk, a, vs, n, rfl, hm, hz, hr⟩ := h1
  refine ⟨hd, a, vs, n, p1, p2, rfl, hk, hm, hz, hr, fun fz' vs' n' ds' hs hz' hr' => ⟨by rw [upd_keys]; exact H.nd, ?_⟩⟩
  exact k m fz' _ _ (fun _ _ => rfl) hs ⟨hk, a, vs', n', rfl, hm, hz', hr'⟩

/-! ## targets -/
noncomputable def asgD (ρ : Rho) : Expr → D → Option Rho
  | .Name x _, d => setV ρ x d
  | .Tuple [.Name x _, .Name y _] _ _, .tup [a, b] => if (x != y) = true then (setV ρ x a).bind fun ρ => setV ρ y b else none
  | _, _ => none

theorem two_sound {x y : Str} {px py : Pos} {a b : D} {va vb : Value} {ρ₁ : Rho} {Q : Unit → Shared → Prop} (X : FE env L) (H : Al h₀ fz env m ρ fx) (G : Lg h₀ L m (fx ++ ext) fz s.heap) (h1 : setV ρ x a = some ρ₁) (h2 : setV ρ₁ y b = some ρ') (ra : Rep h₀ fz va a) (rb : Rep h₀ fz vb b)
    (h : ∀ h' tk' m' fx', Lg h₀ L m' (fx' ++ ext) fz h' → Al h₀ fz env m' ρ' fx' → Q () { s with heap := h', toks := tk' }) :
    wpAny (model prog w) A (storeName env x va) (fun _ s₁ => wpAny (model prog w) A (storeName env y vb) Q E s₁) E s :=
  store_sound X H G h1 ra fun h' tk' m' fx' G' H' => store_sound X H' G' h2 rb fun h'' tk'' m'' fx'' G'' H'' => h h'' tk'' m'' fx'' G'' H''

theorem asg_sound (hh : A.handled = none) {tgt : Expr} {v : Value} {d : D} {Q : Unit → Shared → Prop} (X : FE env L) (H : Al h₀ fz env m ρ fx) (G : Lg h₀ L m (fx ++ ext) fz s.heap) (hx : asgD ρ tgt d = some ρ') (r : Rep h₀ fz v d)
    (h : ∀ h' tk' m' fx', Lg h₀ L m' (fx' ++ ext) fz h' → Al h₀ fz env m' ρ' fx' → Q () { s with heap := h', toks := tk' }) : wpAny (model prog w) A (assign tgt env v) Q E s := by
  unfold asgD at hx
  split at hx
  · exact wpAny_assign_Name (store_sound X H G hx r h)
  · rename_i x px y py k p a b
    split at hx
    · obtain ⟨ρ₁, h1, h2⟩ := Option.bind_eq_some_iff.mp hx
      cases r with
      | tup z c e hs rr =>
        rename_i ta o vs n
        obtain ⟨vl⟩ := vs
        cases rr with
        | cons ra rr =>
          cases rr with
          | cons rb rr =>
            cases rr
            rename_i va vb
            have ht : s.heap.IsTuple ta (List.toArray [va, vb]) := ⟨_, G.z z, c, _, e⟩
            refine wpAny_assign_Tuple hh ht rfl rfl fun h1' hs1 => ?_
            have G1 : Lg h₀ L m (fx ++ ext) fz h1' := G.keep fun b x ex => hs1 b x (Nat.ne_of_lt (Heap.lt_size ex)) ex
            refine assignInOrder_cons (wpAny_assign_Name ?_)
            refine wpAny_mono (two_sound (s := { s with heap := h1' }) (Q := fun _ s' => Q () s') (E := E) (px := px) (py := py) X H G1 h1 h2 ra rb fun h' tk' m' fx' G' H' => h h' tk' m' fx' G' H') (fun _ s' h' => ?_) fun _ _ x => x
            exact assignInOrder_cons (wpAny_assign_Name (wpAny_mono h' (fun _ s'' q => assignInOrder_nil q) fun _ _ x => x))
    · cases hx
  · cases hx
end
end
section -- MQ
inductive Flw where
  | next | brk | cont
  | ret (d : D)

inductive Tsk where
  | S (s : Stmt)
  | B (l : List Stmt)
  | F (tgt : Expr) (body : List Stmt) (ds : List D)
  | W (test : Expr) (body : List Stmt)

noncomputable abbrev Psi := Str → List D → Option (List D)

noncomputable def iiR' (op : Operator) (x y : Int) : Option R := match op with
  | .Add => some (.int (x + y), true)
  | .LShift => if 0 ≤ y ∧ y ≤ 100000 ∧ log8 x = true then some (.int (x * 2 ^ y.toNat), true) else none
  | .BitOr => some (.int (Builtin.bitOr x y), true)
  | _ => none
noncomputable def iopR (op : Operator) (a b : R) : Option R := match a.1 with
  | .int x => (match b.1 with
    | .int y => iiR' op x y
    | _ => none)
  | _ => none

/-- the expressions that are served -/
noncomputable def served : Expr → Bool
  | .Constant .. | .Name .. | .BinOp .. | .UnaryOp .. | .IfExp .. | .Compare .. | .List .. | .Tuple .. | .Subscript .. | .Call .. | .ListComp .. => true
  | _ => false
noncomputable def tgtOk (tgt e : Expr) : Bool := served e && match tgt with
  | .Tuple _ _ _ => (match e with
    | .Tuple vs _ _ => vs.all (foldedForSure 8) || !vs.all (constantsAlone 8)
    | _ => true)
  | _ => true

inductive Run (Φ : Phi) (Ψ : Psi) (nm : Names) : Tsk → Rho → Rho → Flw → Prop
  | nil {ρ} : Run Φ Ψ nm (.B []) ρ ρ .next
  | cons {s r ρ ρ₁ ρ₂ f} : Run Φ Ψ nm (.S s) ρ ρ₁ .next → Run Φ Ψ nm (.B r) ρ₁ ρ₂ f → Run Φ Ψ nm (.B (s :: r)) ρ ρ₂ f
  | frz {l ρ ρ' f} : Run Φ Ψ nm (.B l) (froz ρ) ρ' f → Run Φ Ψ nm (.B l) ρ ρ' f
  | stop {s r ρ ρ₁ f} : Run Φ Ψ nm (.S s) ρ ρ₁ f → f ≠ .next → Run Φ Ψ nm (.B (s :: r)) ρ ρ₁ f
  | asg {tgt e pos d ρ ρ'} : Ev Φ nm ρ (.E e (d, true)) → asgD ρ tgt d = some ρ' → tgtOk tgt e = true → Run Φ Ψ nm (.S (.Assign [tgt] e pos)) ρ ρ' .next
  | own {x xp es lp pos ds f ρ} : Ev Φ nm ρ (.S es ds f) → (f || allAtom ds) = true → ds.length ≤ line24 → isLoc ρ x = true → Run Φ Ψ nm (.S (.Assign [.Name x xp] (.List es lp) pos)) ρ (upd ρ x (.own ds)) .next
  | callOwn {x xp g gp es cp pos ds l ρ} : nm.lookup g = some .globalImplicit → Ev Φ nm ρ (.S es ds true) → Ψ g ds = some l → isLoc ρ x = true → Run Φ Ψ nm (.S (.Assign [.Name x xp] (.Call (.Name g gp) es [] cp) pos)) ρ (upd ρ x (.own l)) .next
  | aug {x xp op e pos a b d ρ ρ'} : getV ρ x = some a → Ev Φ nm ρ (.E e b) → iopR op a b = some (d, true) → setV ρ x d = some ρ' → Run Φ Ψ nm (.S (.AugAssign (.Name x xp) op e pos)) ρ ρ' .next
  | augAt {x xp i ip e pos ρ l k j a b} : ρ.lookup x = some (.own l) → notSlice i = true → Ev Φ nm ρ (.E i (.int k, true)) → ((0 ≤ k ∧ k < l.length ∧ j = k.toNat) ∨ (k < 0 ∧ -(l.length : Int) ≤ k ∧ j = (k + l.length).toNat)) →
      l[j]? = some (.int a) → Ev Φ nm ρ (.E e (.int b, true)) → Run Φ Ψ nm (.S (.AugAssign (.Subscript (.Name x xp) i ip) .Add e pos)) ρ (upd ρ x (.own (l.set j (.int (a + b))))) .next
  | append {x xp ap e cp pos ρ l d f} : ρ.lookup x = some (.own l) → Ev Φ nm ρ (.E e (d, f)) → (f || atom d) = true → l.length < line24 → ap.endLine = cp.line → notStar e = true →
      Run Φ Ψ nm (.S (.Expr (.Call (.Attribute (.Name x xp) (Str.ofString "append") ap) [e] [] cp) pos)) ρ (upd ρ x (.own (l ++ [d]))) .next
  | extend {x xp ap e cp pos ρ l ds f} : ρ.lookup x = some (.own l) → Ev Φ nm ρ (.E e (.lst ds, f)) → (f || allAtom ds) = true → l.length + ds.length ≤ line24 → ap.endLine = cp.line → notStar e = true →
      Run Φ Ψ nm (.S (.Expr (.Call (.Attribute (.Name x xp) (Str.ofString "extend") ap) [e] [] cp) pos)) ρ (upd ρ x (.own (l ++ ds))) .next
  | reverse {x xp ap cp pos ρ l} : ρ.lookup x = some (.own l) → ap.endLine = cp.line →
      Run Φ Ψ nm (.S (.Expr (.Call (.Attribute (.Name x xp) (Str.ofString "reverse") ap) [] [] cp) pos)) ρ (upd ρ x (.own l.reverse)) .next
  | ite {test body orelse pos b ρ ρ' f} : Ev Φ nm ρ (.T test b) → Run Φ Ψ nm (.B (if b then body else orelse)) ρ ρ' f → Run Φ Ψ nm (.S (.If test body orelse pos)) ρ ρ' f
  | ret {e pos d ρ} : Ev Φ nm (froz ρ) (.E e (d, true)) → Run Φ Ψ nm (.S (.Return (some e) pos)) ρ ρ (.ret d)
  | for {tgt it body pos ds ρ ρ' f} : notSet it = true → Ev Φ nm ρ (.I it ds) → Run Φ Ψ nm (.F tgt body ds) ρ ρ' f → Run Φ Ψ nm (.S (.For tgt it body [] pos)) ρ ρ' f
  | while {test body pos ρ ρ' f} : Run Φ Ψ nm (.W test body) ρ ρ' f → Run Φ Ψ nm (.S (.While test body [] pos)) ρ ρ' f
  | fnil {tgt body ρ} : Run Φ Ψ nm (.F tgt body []) ρ ρ .next
  | fcons {tgt body d ds ρ ρ₁ ρ₂ ρ₃ f g} : asgD ρ tgt d = some ρ₁ → Run Φ Ψ nm (.B body) ρ₁ ρ₂ f → (f = .next ∨ f = .cont) → Run Φ Ψ nm (.F tgt body ds) ρ₂ ρ₃ g → Run Φ Ψ nm (.F tgt body (d :: ds)) ρ ρ₃ g
  | fret {tgt body d ds ρ ρ₁ ρ₂ x} : asgD ρ tgt d = some ρ₁ → Run Φ Ψ nm (.B body) ρ₁ ρ₂ (.ret x) → Run Φ Ψ nm (.F tgt body (d :: ds)) ρ ρ₂ (.ret x)
  | wend {test body ρ} : Ev Φ nm ρ (.T test false) → Run Φ Ψ nm (.W test body) ρ ρ .next
  | wcons {test body ρ ρ₁ ρ₂ f g} : Ev Φ nm ρ (.T test true) → Run Φ Ψ nm (.B body) ρ ρ₁ f → (f = .next ∨ f = .cont) → Run Φ Ψ nm (.W test body) ρ₁ ρ₂ g → Run Φ Ψ nm (.W test body) ρ ρ₂ g
  | wret {test body ρ ρ₁ x} : Ev Φ nm ρ (.T test true) → Run Φ Ψ nm (.B body) ρ ρ₁ (.ret x) → Run Φ Ψ nm (.W test body) ρ ρ₁ (.ret x)

/-! ## one turn of a loop -/
section
variable {prog : Program} {w : World} {A : Around} {E : Value → Shared → Prop} {R : Result → Shared → Prop} {s : Shared}

theorem for_step {target it body orelse env}
    (turn : wpAny (model prog w) A (pyNext it) (fun r s₁ => match r with
      | none => wpAny (model prog w) A (execs orelse env) (fun f s₃ => R (.ok f) s₃) (notedBy (model prog w) A env fun e s' => R (.error e) s') s₁
      | some v => wpAny (model prog w) A (letOwnedTupleGo target it v) (fun _ s₁' =>
          wpAny (model prog w) A (assign target env v) (fun _ s₂ => wpAny (model prog w) A (execs body env) (fun f s₃ => match f with
            | .next | .cont => codeAny (model prog w) A (.forLoop target it body orelse env) R s₃
            | .brk => R (.ok .next) s₃
            | .ret v => R (.ok (.ret v)) s₃) (notedBy (model prog w) A env fun e s' => R (.error e) s') s₂) (notedBy (model prog w) A env fun e s' => R (.error e) s') s₁') (notedBy (model prog w) A env fun e s' => R (.error e) s') s₁) (notedBy (model prog w) A env fun e s' => R (.error e) s') s) :
    codeAny (model prog w) A (.forLoop target it body orelse env) R s := by
  refine codeAny_of_tree ?_
  show wpAny _ A ((forTurn target it body orelse env).onRaise (fun x => do noteFrame x env; theTreesLotGoes x)) _ _ s
  refine wpAny_noted ?_
  simp only [forTurn]
  refine wpAny_bind (wpAny_standAt (wpAny_bind (wpAny_onRaise (wpAny_mono turn (fun r s₁ h₁ => ?_) fun _ _ h' => wpAny_standAt h'))))
  cases r with
  | none => exact wpAny_pure ⟨rfl, codeAny_block h₁⟩
  | some v =>
    refine wpAny_bind (wpAny_mono h₁ (fun _ s₁' h₁' => ?_) fun _ _ h' => h')
    refine wpAny_bind (wpAny_mono h₁' (fun _ s₂ h₂ => wpAny_bind (wpAny_mono h₂ (fun f s₃ h₃ => ?_) fun _ _ h' => h')) fun _ _ h' => h')
    cases f with
    | next => exact wpAny_pure ⟨rfl, h₃⟩
    | cont => exact wpAny_pure ⟨rfl, h₃⟩
    | brk => exact wpAny_pure h₃
    | ret v => exact wpAny_pure h₃

theorem while_step {test body orelse env}
    (turn : wpAny (model prog w) A (isTrue test env (eval test env)) (fun b s₂ =>
        if b then wpAny (model prog w) A (execs body env) (fun f s₃ => match f with
            | .next | .cont => codeAny (model prog w) A (.whileLoop test body orelse env) R s₃
            | .brk => R (.ok .next) s₃
            | .ret v => R (.ok (.ret v)) s₃) (notedBy (model prog w) A env fun e s' => R (.error e) s') s₂
        else wpAny (model prog w) A (execs orelse env) (fun f s₃ => R (.ok f) s₃) (notedBy (model prog w) A env fun e s' => R (.error e) s') s₂)
        (notedBy (model prog w) A env fun e s' => R (.error e) s') s) : codeAny (model prog w) A (.whileLoop test body orelse env) R s := by
  refine codeAny_of_tree ?_
  show wpAny _ A ((whileTurn test body orelse env).onRaise (fun x => do noteFrame x env; theTreesLotGoes x)) _ _ s
  refine wpAny_noted ?_
  simp only [whileTurn]
  refine wpAny_bind (wpAny_mono turn (fun b s₂ h₂ => ?_) fun _ _ h' => h')
  cases b with
  | false =>
    simp only [Bool.false_eq_true, if_false] at h₂ ⊢
    exact wpAny_bind (wpAny_mono h₂ (fun f s₃ h₃ => wpAny_pure h₃) fun _ _ h' => h')
  | true =>
    simp only [if_true] at h₂ ⊢
    refine wpAny_bind (wpAny_mono h₂ (fun f s₃ h₃ => ?_) fun _ _ h' => h')
    cases f with
    | next => exact wpAny_pure ⟨rfl, h₃⟩
    | cont => exact wpAny_pure ⟨rfl, h₃⟩
    | brk => exact wpAny_pure h₃
    | ret v => exact wpAny_pure h₃
end

/-! ## what a run promises -/
noncomputable def PostX (h₀ : Heap) (L : Stk) (env : Env) (ext fz : Led) (s : Shared) (ρ' : Rho) : Flw → (Flow → Shared → Prop) → Prop
  | .ret d, Q => ∀ v h' tk' m' fx' add, Lg h₀ L m' (fx' ++ ext) (add ++ fz) h' → Off add fz → Rep h₀ (add ++ fz) v d → Q (.ret v) { s with heap := h', toks := tk' }
  | .next, Q => ∀ h' tk' m' fx' add, Lg h₀ L m' (fx' ++ ext) (add ++ fz) h' → Off add fz → Al h₀ (add ++ fz) env m' ρ' fx' → Q .next { s with heap := h', toks := tk' }
  | .brk, Q => ∀ h' tk' m' fx' add, Lg h₀ L m' (fx' ++ ext) (add ++ fz) h' → Off add fz → Al h₀ (add ++ fz) env m' ρ' fx' → Q .brk { s with heap := h', toks := tk' }
  | .cont, Q => ∀ h' tk' m' fx' add, Lg h₀ L m' (fx' ++ ext) (add ++ fz) h' → Off add fz → Al h₀ (add ++ fz) env m' ρ' fx' → Q .cont { s with heap := h', toks := tk' }

theorem PostX.later {h₀ : Heap} {L : Stk} {env : Env} {ext fz add : Led} {s : Shared} {ρ' : Rho} {f : Flw} {Q : Flow → Shared → Prop} {h1 : Heap} {tk1 : Nat} (P : PostX h₀ L env ext fz s ρ' f Q) (ho : Off add fz) :
    PostX h₀ L env ext (add ++ fz) { s with heap := h1, toks := tk1 } ρ' f Q := by
  have ap : ∀ {a2 : Led}, Off a2 (add ++ fz) → Off (a2 ++ add) fz := fun h => Off.append (h.sub fun p hp => List.mem_append_right _ hp) ho
  cases f with
  | ret d => exact fun v h' tk' m' fx' a2 G o r => P v h' tk' m' fx' (a2 ++ add) (by rw [List.append_assoc]; exact G) (ap o) (by rw [List.append_assoc]; exact r)
  | next => exact fun h' tk' m' fx' a2 G o r => P h' tk' m' fx' (a2 ++ add) (by rw [List.append_assoc]; exact G) (ap o) (by rw [List.append_assoc]; exact r)
  | brk => exact fun h' tk' m' fx' a2 G o r => P h' tk' m' fx' (a2 ++ add) (by rw [List.append_assoc]; exact G) (ap o) (by rw [List.append_assoc]; exact r)
  | cont => exact fun h' tk' m' fx' a2 G o r => P h' tk' m' fx' (a2 ++ add) (by rw [List.append_assoc]; exact G) (ap o) (by rw [List.append_assoc]; exact r)

/-- a call that gives a list of one's own -/
noncomputable def CallOwn (prog : Program) (w : World) (p : Program) (loose : Heap → Prop) (mean : ExcName → Option Value) (mg mb : Str → Option Value) (dep : Nat) (fv : Value) (args : List D) (l : List D) : Prop :=
  ∀ (A₀ A : Around) (base h₀ : Heap) (outer : List Env) (fenv : Env) (L : Stk) (m : Str → Option Value) (fix fz : Led) (s : Shared) (vs : List Value) (Q E : Value → Shared → Prop),
    Fx p loose mean mg mb A₀ A base h₀ outer fenv L dep → Lg h₀ L m fix fz s.heap → Reps h₀ fz vs args →
    (∀ a ys n h' tk' add, Lg h₀ L m ((a, lo ys n) :: fix) (add ++ fz) h' → Off add (fix ++ fz) → ys.length ≤ line24 → Reps h₀ (add ++ fz) ys l → Q (.ref a) { s with heap := h', toks := tk' }) →
    wpAny (model prog w) A (call fv vs) Q E s

structure GxO (prog : Program) (w : World) (p : Program) (loose : Heap → Prop) (mean : ExcName → Option Value) (mg mb : Str → Option Value) (Ψ : Psi) (dep : Nat) : Prop where
  psi : ∀ g ds l, Ψ g ds = some l → (g == ("__debug__" : Str)) = false ∧ ∃ r ∈ recsOf p, r.name = g ∧ ∀ fv, mg g = some fv → CallOwn prog w p loose mean mg mb dep fv ds l

noncomputable def TGoal (prog : Program) (w : World) (A : Around) (h₀ : Heap) (L : Stk) (env : Env) (ρ ρ' : Rho) (f : Flw) : Tsk → Prop
  | .S st => ∀ m fx ext fz s (E : Value → Shared → Prop) (Q : Flow → Shared → Prop), Al h₀ fz env m ρ fx → Lg h₀ L m (fx ++ ext) fz s.heap → PostX h₀ L env ext fz s ρ' f Q → wpAny (model prog w) A (exec st env) Q E s
  | .B l => ∀ m fx ext fz s (E : Value → Shared → Prop) (Q : Flow → Shared → Prop), Al h₀ fz env m ρ fx → Lg h₀ L m (fx ++ ext) fz s.heap → PostX h₀ L env ext fz s ρ' f Q → wpAny (model prog w) A (execs l env) Q E s
  | .W test body => ∀ m fx ext fz s (R : Result → Shared → Prop), Al h₀ fz env m ρ fx → Lg h₀ L m (fx ++ ext) fz s.heap → PostX h₀ L env ext fz s ρ' f (fun f s' => R (.ok f) s') → codeAny (model prog w) A (.whileLoop test body [] env) R s
  | .F tgt body ds => ∀ m fx ext fz s (R : Result → Shared → Prop) I oI fp P St items i fx0 fz0 hp0, Al h₀ fz env m ρ fx → Lg h₀ L m (fx ++ (I, oI) :: ext) fz s.heap → Itr prog w A h₀ L fx0 fz0 hp0 items I fp P St → (∀ p ∈ fz0, p ∈ fz) →
      ds = items.drop i → i ≤ items.length → St i s.heap → PostX h₀ L env ext fz s ρ' f (fun f s' => R (.ok f) s') → codeAny (model prog w) A (.forLoop tgt (.ref I) body [] env) R s
end
section -- MR
section
variable {prog : Program} {w : World} {A : Around} {h₀ : Heap} {L : Stk} {p : Program} {loose : Heap → Prop} {mean : ExcName → Option Value} {mg mb : Str → Option Value} {A₀ : Around} {base : Heap} {outer : List Env} {fenv : Env} {dep : Nat} {Φ : Phi} {Ψ : Psi}
variable {env : Env} {ρ ρ' : Rho} {E : Value → Shared → Prop} {s : Shared} {m : Str → Option Value} {fx ext fz : Led}

theorem off_fz {add fix fz : Led} (h : Off add (fix ++ fz)) : Off add fz := h.sub fun p hp => List.mem_append_right _ hp
/-- what has come to the frozen part -/
structure Grw (fz fzN add : Led) : Prop where
  e : fzN = add ++ fz
  o : Off add fz
theorem Grw.one {a fz : Led} (h : Off a fz) : Grw fz (a ++ fz) a := ⟨rfl, h⟩
theorem Grw.sub {fz fzN add : Led} (g : Grw fz fzN add) : ∀ q ∈ fz, q ∈ fzN := fun _ hq => g.e ▸ List.mem_append_right _ hq
theorem Grw.z {a fz fzN add : Led} (g : Grw fz fzN add) (h : Off a fzN) : Grw fz (a ++ fzN) (a ++ add) := ⟨by rw [g.e, List.append_assoc], Off.append (h.sub g.sub) g.o⟩
theorem Grw.f {a fix fz fzN add : Led} (g : Grw fz fzN add) (h : Off a (fix ++ fzN)) : Grw fz (a ++ fzN) (a ++ add) := g.z (off_fz h)

/-- a comprehension that is assigned straight away -/
theorem comp_use (hh : A.handled = none) {sc : Scope} {tgt iter elt : Expr} {ifs : List Expr} {pos py spos : Pos} {y : Str} {items : List D} {outs : List (Option D)} {Q : Flow → Shared → Prop}
    (X : FE env L) (H : Al h₀ fz env m ρ fx) (G : Lg h₀ L m (fx ++ ext) fz s.heap)
    (hsw : swapsWith (.ListComp elt [⟨tgt, iter, ifs, 0⟩] sc pos) (some (.Name y py)) spos.line env = pure true)
    (hsc : compScopeOk env.scope.names sc = true) (hkind : sc.kind = .function) (hdbg : sc.names.all (fun x => !(x.1 == ("__debug__" : Str))) = true) (hset : notSet iter = true)
    (hI : EvIOk prog w A h₀ L env ρ iter items) (hlo : items.length = outs.length)
    (turn : ∀ cl, (∀ n c, env.cells.lookup n = some c → (n, NameKind.free) ∈ sc.names → cl.lookup n = some c) → ∀ (i : Nat) d out, items[i]? = some d → outs[i]? = some out → TurnOk prog w A h₀ L env ρ sc cl tgt ifs elt d out)
    (hy : setV ρ y (.lst (outs.filterMap id)) = some ρ') (P : PostX h₀ L env ext fz s ρ' .next Q) :
    wpAny (model prog w) A (exec (.Assign [.Name y py] (.ListComp elt [⟨tgt, iter, ifs, 0⟩] sc pos) spos) env) Q E s := by
  obtain ⟨cl, hclos, hcl⟩ := closureFor_of (env := env) (sc := sc) fun x hx e => X.O.c x.1 (compScope_free hsc x.1 (by rw [← e]; exact hx)).1
  rw [exec_Assign_Name_used _ _ _ _ hsw]
  refine wpAny_bind (wpAny_standAt (wpAny_bind ?_))
  show wpAny _ A (do let _ ← comprehension (.ListComp elt [⟨tgt, iter, ifs, 0⟩] sc pos) sc env _ (newList []) false (eval iter env) (some (assign (.Name y py) env))) _ _ s
  refine wpAny_bind (wpAny_mono (wpAny_comprehension_free (use := some (assign (.Name y py) env)) (Q := fun _ s' => Q .next s') rfl (fun x => by cases iter <;> first | rfl | cases hset) hclos hkind (compScope_local hsc)
    (hI m (fx ++ ext) fz s _ _ G (H.all.rho X.hl ext) fun I oI h' tk' add fp PP St G1 ho1 T hlen => ?_)) (fun _ s' hq => wpAny_pure (wpAny_pure hq)) fun _ _ e => e)
  refine comp_block hh X.O hsc hkind hdbg hcl hlo (turn cl hcl) ((H.all.rho X.hl ext).grow add) G1 T hlen fun D C h2 tk2 add2 ys n oC mC G2 hn2 ho2 hyl hys => ?_
  show wpAny _ A (assign (.Name y py) env (.ref D)) _ _ _
  have pm : ((C, oC) :: (D, lo ys n) :: (fx ++ ext)).Perm ([(D, lo ys n)] ++ (fx ++ (C, oC) :: ext)) :=
    (List.Perm.swap _ _ _).trans (List.Perm.cons _ List.perm_middle.symm)
  obtain ⟨G3, ho3⟩ := (G2.perm pm).freezes
  have hD : Rep h₀ ([(D, lo ys n)] ++ (add2 ++ (add ++ fz))) (.ref D) (.lst (outs.filterMap id)) :=
    .lst (.inr List.mem_cons_self) rfl rfl (by rw [List.size_toArray]; exact hyl) (by simpa using hys.sub fun p hp => List.mem_cons_of_mem _ hp)
  have H3 := ((H.grow add).grow add2).grow [(D, lo ys n)]
  refine wpAny_assign_Name (store_sound X H3 G3 hy hD fun h3 tk3 m3 fx3 G4 H4 => ?_)
  refine ⟨mC, hn2.ns (G4.fixed (by simp)), fun h4 hs4 => ?_⟩
  have G5 : Lg h₀ L m3 (fx3 ++ ext) ([(D, lo ys n)] ++ (add2 ++ (add ++ fz))) h4 := (G4.perm List.perm_middle).leave fun b x hb e => hs4.extBut b x hb e
  have e1 : ([(D, lo ys n)] ++ (add2 ++ (add ++ fz))) = ([(D, lo ys n)] ++ (add2 ++ add)) ++ fz := by simp
  rw [e1] at G5 H4
  refine P h4 _ m3 fx3 _ G5 ?_ H4
  refine Off.append ((off_fz ho3).sub fun p hp => List.mem_append_right _ (List.mem_append_right _ hp)) (Off.append ((off_fz ho2).sub fun p hp => List.mem_append_right _ hp) (off_fz ho1))

theorem swaps_cases {e : Expr} {x : Str} {xp : Pos} {l : Nat} (he : served e = true) :
    swapsWith e (some (.Name x xp)) l env = pure false ∨ (swapsWith e (some (.Name x xp)) l env = pure true ∧ ∃ elt gens sc pos, e = .ListComp elt gens sc pos) := by
  cases e with
  | ListComp elt gens sc pos =>
    show (pure _ : Sem Bool) = pure false ∨ (pure _ : Sem Bool) = pure true ∧ _
    cases (env.blockKind == .function && env.kindOf x == some .local && xp.line == (Expr.ListComp elt gens sc pos).pos.line && !(sc.names.any fun (n, k) => n == x && (k == .local || k == .cell))) with
    | false => exact .inl rfl
    | true => exact .inr ⟨rfl, _, _, _, _, rfl⟩
  | _ => first | exact .inl rfl | exact absurd he Bool.false_ne_true

theorem asgName_sound (X : Fx p loose mean mg mb A₀ A base h₀ outer fenv L dep) (Γ : Gx prog w p loose mean mg mb Φ dep) (FX : FE env L) {x : Str} {xp pos : Pos} {e : Expr} {d : D} {Q : Flow → Shared → Prop} (hse : served e = true)
    (he : Ev Φ env.scope.names ρ (.E e (d, true))) (hx : setV ρ x d = some ρ') (H : Al h₀ fz env m ρ fx) (G : Lg h₀ L m (fx ++ ext) fz s.heap) (P : PostX h₀ L env ext fz s ρ' .next Q) :
    wpAny (model prog w) A (exec (.Assign [.Name x xp] e pos) env) Q E s := by
  rcases swaps_cases (x := x) (xp := xp) (l := pos.line) (env := env) hse with hs | ⟨hs, elt, gens, sc, cp, rfl⟩
  · refine wpAny_Assign_Name (ev_sound X Γ he FX.O rfl m (fx ++ ext) fz s _ _ G (H.all.rho FX.hl ext) fun v h1 tk1 add1 G1 ho1 hr1 => ?_) hs
    exact store_sound FX (H.grow add1) G1 hx hr1 fun h2 tk2 m2 fx2 G2 H2 => P h2 tk2 m2 fx2 add1 G2 (off_fz ho1) H2
  · cases he with
    | comp hc hI hb I1 I2 =>
      rw [← outs_filter] at hx
      exact comp_use X.hh FX H G hs hc.1 (eq_of_beq hc.2.1) hc.2.2.2 hc.2.2.1 (ev_sound X Γ hI FX.O rfl) ((List.length_map _).trans (List.length_map _).symm)
        (comp_turn FX.O rfl hc hb (fun x hx {_} O n => ev_sound X Γ (I1 x hx) O n) (fun x hx ht {_} O n => ev_sound X Γ (I2 x hx ht) O n)) hx P

theorem kind_of_fn (O : EnvOk env) : env.blockKind = .function := by unfold Env.blockKind; rw [O.k]; rfl

theorem swappedStores_pair (O : EnvOk env) {x y : Str} {px py tp : Pos} {k : Nat} {e : Expr} (h : tgtOk (.Tuple [.Name x px, .Name y py] k tp) e = true) :
    swappedStores [.Tuple [.Name x px, .Name y py] k tp] e env = pure none ∨ swappedStores [.Tuple [.Name x px, .Name y py] k tp] e env = pure (some [x, y]) := by
  cases e with
  | Tuple vs k' p' =>
    have hk := kind_of_fn O
    have h' : (vs.all (foldedForSure 8) || !vs.all (constantsAlone 8)) = true := (Bool.and_eq_true_iff.mp h).2
    unfold swappedStores
    simp only [pure_bind]
    generalize hc1 : (!(([Expr.Name x px, Expr.Name y py].length == 2) || ([Expr.Name x px, Expr.Name y py].length == 3)) || vs.length != [Expr.Name x px, Expr.Name y py].length || env.blockKind != .function) = c1
    cases c1 with
    | true => exact .inl rfl
    | false =>
      generalize hc2 : (vs.any fun e => match e with | .Starred .. => true | _ => false) = c2
      simp only [Bool.false_eq_true, if_false, List.filterMap_cons, List.filterMap_nil]
      cases c2 with
      | true => exact .inl rfl
      | false =>
        by_cases ha : (env.kindOf x == some NameKind.local && px.line == (Option.map (fun x => x.pos.line) [Expr.Name x px, Expr.Name y py].head?).getD 0) = true <;>
          by_cases hb : (env.kindOf y == some NameKind.local && py.line == (Option.map (fun x => x.pos.line) [Expr.Name x px, Expr.Name y py].head?).getD 0) = true
        rotate_left
        · simp only [if_pos ha, if_neg hb]; exact .inl rfl
        · simp only [if_neg ha, if_pos hb]; exact .inl rfl
        · simp only [if_neg ha, if_neg hb]; exact .inl rfl
        simp only [if_pos ha, if_pos hb]
        generalize ([x, y].length != [Expr.Name x px, Expr.Name y py].length || [x, y].eraseDups.length != [x, y].length) = c3
        cases c3 with
        | true => exact .inl rfl
        | false =>
          simp only [Bool.false_eq_true, if_false]
          cases hf : vs.all (foldedForSure 8) with
          | true => exact .inl rfl
          | false =>
            rw [hf] at h'
            cases hg : vs.all (constantsAlone 8) with
            | true => rw [hg] at h'; cases h'
            | false => exact .inr rfl
  | _ => exact .inl rfl

theorem asgPair_sound (X : Fx p loose mean mg mb A₀ A base h₀ outer fenv L dep) (Γ : Gx prog w p loose mean mg mb Φ dep) (FX : FE env L) {x y : Str} {px py tp pos : Pos} {k : Nat} {e : Expr} {d : D} {Q : Flow → Shared → Prop}
    (he : Ev Φ env.scope.names ρ (.E e (d, true))) (hx : asgD ρ (.Tuple [.Name x px, .Name y py] k tp) d = some ρ') (ht : tgtOk (.Tuple [.Name x px, .Name y py] k tp) e = true) (H : Al h₀ fz env m ρ fx) (G : Lg h₀ L m (fx ++ ext) fz s.heap) (P : PostX h₀ L env ext fz s ρ' .next Q) :
    wpAny (model prog w) A (exec (.Assign [.Tuple [.Name x px, .Name y py] k tp] e pos) env) Q E s := by
  have hso : swapsWithSole [.Tuple [.Name x px, .Name y py] k tp] e pos.line env = pure false := by cases e <;> rfl
  have I := ev_sound X Γ he FX.O rfl m (fx ++ ext) fz s
  rcases swappedStores_pair FX.O ht with hw | hw
  · refine Assign_Tuple (I _ _ G (H.all.rho FX.hl ext) fun v h1 tk1 add1 G1 ho1 hr1 => ?_) hso hw
    exact asg_sound X.hh FX (H.grow add1) G1 hx hr1 fun h2 tk2 m2 fx2 G2 H2 => P h2 tk2 m2 fx2 add1 G2 (off_fz ho1) H2
  · refine Assign_Tuple_swapped (I _ _ G (H.all.rho FX.hl ext) fun v h1 tk1 add1 G1 ho1 hr1 => ?_) hso hw
    unfold asgD at hx
    split at hx
    · contradiction
    · rename_i x' px' y' py' k' tp' a b heq
      cases heq
      split at hx
      · rename_i hne
        obtain ⟨ρ₁, h1', h2'⟩ := Option.bind_eq_some_iff.mp hx
        obtain ⟨ρ₃, h3, h4⟩ := setV_comm (by simpa using hne) h1' h2'
        have hr1' : Rep h₀ (add1 ++ fz) v (.tup [a, b]) := hr1
        cases hr1' with
        | tup z c e hs rr =>
          rename_i ta o vs nn
          obtain ⟨vl⟩ := vs
          cases rr with
          | cons ra rr =>
            cases rr with
            | cons rb rr =>
              cases rr
              rename_i va vb
              have hta : h1.IsTuple ta (List.toArray [va, vb]) := ⟨_, G1.z z, c, _, e⟩
              refine wpAny_unpackItems_tuple (items := List.toArray [va, vb]) X.hh hta fun h5 hs5 => ?_
              have G5 : Lg h₀ L m (fx ++ ext) (add1 ++ fz) h5 := G1.keep fun b x ex => hs5 b x (Nat.ne_of_lt (Heap.lt_size ex)) ex
              show wpAny _ A (assignInOrder [fun v => bindName env y v, fun v => bindName env x v] [vb, va]) _ E _
              refine assignInOrder_cons (wpAny_bindName ?_)
              refine wpAny_mono (two_sound (s := ⟨h5, s.gens, s.drawn, tk1, s.os⟩) (E := E) (Q := fun _ s' => Q .next s') (px := px) (py := py) FX (H.grow add1) G5 h3 h4 rb ra fun h' tk' m' fx' G' H' => P h' tk' m' fx' add1 G' (off_fz ho1) H') (fun _ s' h' => ?_) fun _ _ x => x
              exact assignInOrder_cons (wpAny_bindName (wpAny_mono h' (fun _ s'' q => assignInOrder_nil q) fun _ _ x => x))
      · cases hx
    · cases hx

theorem method_eval {x name : Str} {xp ap pos : Pos} {e : Expr} {Q : Value → Shared → Prop} (hp : ap.endLine = pos.line) (hn : notStar e = true)
    (h : wpAny (model prog w) A (eval (.Name x xp) env) (fun ov s₁ => wpAny (model prog w) A (getMethod ov name (do return (← importBound (.Name x xp) env).getD true)) (fun fv s₂ => wpAny (model prog w) A (callWith pos fv.1 fv.2 (backTo pos (starEach [e] env)) []) Q E s₂) E s₁) E s) :
    wpAny (model prog w) A (eval (.Call (.Attribute (.Name x xp) name ap) [e] [] pos) env) Q E s := MethodCall_ h (method_eq1 hp hn)

theorem expr_none {e : Expr} {pos : Pos} {Q : Flow → Shared → Prop} (O : EnvOk env) (hc : swapsWith e none pos.line env = pure false) (h : wpAny (model prog w) A (eval e env) (fun v s' => v = .none ∧ Q .next s') E s) : wpAny (model prog w) A (exec (.Expr e pos) env) Q E s := by
  refine wpAny_Expr (wpAny_mono h (fun v s' h' => ?_) fun _ _ x => x) (by unfold interactive; rw [O.k]; rfl) hc
  obtain ⟨rfl, h'⟩ := h'
  exact h'

theorem noDict_lo {h : Heap} {a : Addr} {vs : List Value} {n : Nat} (e : h.get? a = some (lo vs n)) : h.NoDictAt (.ref a) := by
  first | exact ⟨_, e, rfl⟩ | exact Heap.NoDictAt.of e rfl | (intro a' o' h1 h2; cases h1; rw [e] at h2; cases h2; rfl)

theorem append_sound (X : Fx p loose mean mg mb A₀ A base h₀ outer fenv L dep) (Γ : Gx prog w p loose mean mg mb Φ dep) (FX : FE env L) {x : Str} {xp ap cp pos : Pos} {e : Expr} {l : List D} {d : D} {f : Bool} {Q : Flow → Shared → Prop}
    (hx : ρ.lookup x = some (.own l)) (he : Ev Φ env.scope.names ρ (.E e (d, f))) (hf : (f || atom d) = true) (hz : l.length < line24) (hp : ap.endLine = cp.line) (hn : notStar e = true)
    (H : Al h₀ fz env m ρ fx) (G : Lg h₀ L m (fx ++ ext) fz s.heap) (P : PostX h₀ L env ext fz s (upd ρ x (.own (l ++ [d]))) .next Q) :
    wpAny (model prog w) A (exec (.Expr (.Call (.Attribute (.Name x xp) (Str.ofString "append") ap) [e] [] cp) pos) env) Q E s := by
  obtain ⟨hdb, a, vs, k, p1, p2, rfl, hk, hm, hz', hr, kk⟩ := own_change H hx
  have ha : ∀ {s1 : Shared} {fz1}, Lg h₀ L m (p1 ++ ([(a, lo vs k)] ++ p2) ++ ext) fz1 s1.heap → s1.heap.get? a = some (lo vs k) := fun G => G.fixed (by simp)
  refine expr_none FX.O rfl (method_eval hp hn (wpAny_Name (wpAny_loadName_local FX.O.k hk (FX.hl ▸ G.F.ns) hm ?_) hdb))
  refine getMethod_list_append (ha G) rfl rfl ?_
  refine callWith_builtin (noStars (by simp [hn]) _) (evalArgs_all (by simp [hn]) (spliced_back_cons hn (ev_sound X Γ he FX.O rfl m _ fz s _ _ G (H.all.rho FX.hl ext) fun v h1 tk1 add1 G1 ho1 hr1 => spliced_nil ?_)))
  refine append_at (ha (s1 := ⟨h1, s.gens, s.drawn, tk1, s.os⟩) G1) (fun h2 hs2 hD => ⟨rfl, ?_⟩) (by rw [List.size_toArray]; exact Nat.le_trans hz' line24_le)
  have hrep : Rep h₀ (add1 ++ fz) v d := by
    cases f with
    | true => exact hr1
    | false => exact Rep.atom hr1 (by simpa using hf)
  have e1 : p1 ++ ([(a, lo vs k)] ++ p2) ++ ext = p1 ++ (a, lo vs k) :: (p2 ++ ext) := by simp
  have G2 : Lg h₀ L m (p1 ++ (a, lo (vs ++ [v]) (k + 1)) :: (p2 ++ ext)) (add1 ++ fz) h2 := Lg.replace (e1 ▸ G1) (fun b y hb ey => hs2.extBut b y hb ey) (by rw [hD, List.push_toArray])
  refine P h2 tk1 m (p1 ++ ([(a, lo (vs ++ [v]) (k + 1))] ++ p2)) add1 (by simpa using G2) (off_fz ho1) ?_
  refine kk _ _ _ _ (fun p hp => List.mem_append_right _ hp) ?_ ((hr.sub fun p hp => List.mem_append_right _ hp).append (.cons hrep .nil))
  rw [List.length_append, hr.length]
  exact hz

theorem extend_sound (X : Fx p loose mean mg mb A₀ A base h₀ outer fenv L dep) (Γ : Gx prog w p loose mean mg mb Φ dep) (FX : FE env L) {x : Str} {xp ap cp pos : Pos} {e : Expr} {l ds : List D} {f : Bool} {Q : Flow → Shared → Prop}
    (hx : ρ.lookup x = some (.own l)) (he : Ev Φ env.scope.names ρ (.E e (.lst ds, f))) (hf : (f || allAtom ds) = true) (hz : l.length + ds.length ≤ line24) (hp : ap.endLine = cp.line) (hn : notStar e = true)
    (H : Al h₀ fz env m ρ fx) (G : Lg h₀ L m (fx ++ ext) fz s.heap) (P : PostX h₀ L env ext fz s (upd ρ x (.own (l ++ ds))) .next Q) :
    wpAny (model prog w) A (exec (.Expr (.Call (.Attribute (.Name x xp) (Str.ofString "extend") ap) [e] [] cp) pos) env) Q E s := by
  obtain ⟨hdb, a, vs, k, p1, p2, rfl, hk, hm, hz', hr, kk⟩ := own_change H hx
  have ha : ∀ {s1 : Shared} {fz1}, Lg h₀ L m (p1 ++ ([(a, lo vs k)] ++ p2) ++ ext) fz1 s1.heap → s1.heap.get? a = some (lo vs k) := fun G => G.fixed (by simp)
  refine expr_none FX.O rfl (method_eval hp hn (wpAny_Name (wpAny_loadName_local FX.O.k hk (FX.hl ▸ G.F.ns) hm ?_) hdb))
  refine getMethod_list_of PySem.F.slot_list_extend PySem.F.type_list_extend ⟨_, ha G, rfl, _, rfl⟩ (noDict_lo (ha G)) ?_
  refine callWith_builtin (noStars (by simp [hn]) _) (evalArgs_all (by simp [hn]) (spliced_back_cons hn (ev_sound X Γ he FX.O rfl m _ fz s _ _ G (H.all.rho FX.hl ext) fun v h1 tk1 add1 G1 ho1 hr1 => spliced_nil ?_)))
  obtain ⟨b, us, rfl, hl, hsz, hrs⟩ := listR_of (s := ⟨h1, s.gens, s.drawn, tk1, s.os⟩) G1 hr1
  have e3 := hr.length
  have e4 := hrs.length
  rw [Array.length_toList] at e4
  refine extend_at (ha (s1 := ⟨h1, s.gens, s.drawn, tk1, s.os⟩) G1) hl (by rw [List.size_toArray]; (first | lia | omega)) fun h2 n2 hs2 hD => ⟨rfl, ?_⟩
  have hrep : Reps h₀ (add1 ++ fz) us.toList ds := reps_flag hrs hf id _ fun p hp => hp
  have e1 : p1 ++ ([(a, lo vs k)] ++ p2) ++ ext = p1 ++ (a, lo vs k) :: (p2 ++ ext) := by simp
  have G2 : Lg h₀ L m (p1 ++ (a, lo (vs ++ us.toList) n2) :: (p2 ++ ext)) (add1 ++ fz) h2 := Lg.replace (e1 ▸ G1) (fun b y hb ey => hs2.extBut b y hb ey) (by rw [hD]; simp [lo])
  refine P h2 tk1 m (p1 ++ ([(a, lo (vs ++ us.toList) n2)] ++ p2)) add1 (by simpa using G2) (off_fz ho1) ?_
  refine kk _ _ _ _ (fun p hp => List.mem_append_right _ hp) ?_ ((hr.sub fun p hp => List.mem_append_right _ hp).append hrep)
  rw [List.length_append, hr.length, hrs.length]
  exact hz

theorem reverse_sound (FX : FE env L) {x : Str} {xp ap cp pos : Pos} {l : List D} {Q : Flow → Shared → Prop}
    (hx : ρ.lookup x = some (.own l)) (hp : ap.endLine = cp.line)
    (H : Al h₀ fz env m ρ fx) (G : Lg h₀ L m (fx ++ ext) fz s.heap) (P : PostX h₀ L env ext fz s (upd ρ x (.own l.reverse)) .next Q) :
    wpAny (model prog w) A (exec (.Expr (.Call (.Attribute (.Name x xp) (Str.ofString "reverse") ap) [] [] cp) pos) env) Q E s := by
  obtain ⟨hdb, a, vs, k, p1, p2, rfl, hk, hm, hz', hr, kk⟩ := own_change H hx
  have ha : s.heap.get? a = some (lo vs k) := G.fixed (by simp)
  refine expr_none FX.O rfl (MethodCall_ (wpAny_Name (wpAny_loadName_local FX.O.k hk (FX.hl ▸ G.F.ns) hm ?_) hdb) (method_eq0 hp))
  refine getMethod_list_of PySem.F.slot_list_reverse PySem.F.type_list_reverse ⟨_, ha, rfl, _, rfl⟩ (noDict_lo ha) ?_
  refine callWith_builtin rfl (evalArgs_all rfl (spliced_nil ?_))
  refine reverse_at ha (by rw [List.size_toArray]; exact hz') fun h2 n2 hs2 hD => ⟨rfl, ?_⟩
  have e1 : p1 ++ ([(a, lo vs k)] ++ p2) ++ ext = p1 ++ (a, lo vs k) :: (p2 ++ ext) := by simp
  have G2 : Lg h₀ L m (p1 ++ (a, lo vs.reverse n2) :: (p2 ++ ext)) fz h2 := Lg.replace (e1 ▸ G) (fun b y hb ey => hs2.extBut b y hb ey) (by rw [hD])
  refine P h2 s.toks m (p1 ++ ([(a, lo vs.reverse n2)] ++ p2)) [] (by simpa using G2) Off.nil ?_
  exact kk _ _ _ _ (fun p hp => hp) (by rw [List.length_reverse]; exact hz') hr.reverse

theorem iop_sound {op : Operator} {a b r : R} {va vb : Value} {fix : Led} {Q : Value → Shared → Prop} (G : Lg h₀ L m fix fz s.heap) (ra : RepR h₀ fix fz va a) (rb : RepR h₀ fix fz vb b) (e : iopR op a b = some r)
    (P : Post h₀ L m fix fz s (fun fz' v => RepR h₀ fix fz' v r) Q) : wpAny (model prog w) A (inplaceOp op va vb) Q E s := by
  obtain ⟨a, f⟩ := a
  obtain ⟨b, g⟩ := b
  cases a with
  | int x => cases b with
    | int y =>
      cases ra; cases rb
      cases op with
      | Add => cases e; exact PyProof.Rows.iadd_int (P.here G (RepR.int ..))
      | LShift =>
        by_cases hy : 0 ≤ y ∧ y ≤ 100000 ∧ log8 x = true
        · cases (if_pos hy).symm.trans e
          refine ilshift_int hy.1 ?_ (P.here G (RepR.int ..))
          have := bits_of_log (of_decide_eq_true hy.2.2)
          have := hy.2.1
          (first | lia | omega)
        · exact no ((if_neg hy).symm.trans e)
      | BitOr => cases e; exact ior_int (P.here G (RepR.int ..))
      | _ => exact no e
    | _ => exact no e
  | _ => exact no e

theorem aug_sound (X : Fx p loose mean mg mb A₀ A base h₀ outer fenv L dep) (Γ : Gx prog w p loose mean mg mb Φ dep) (FX : FE env L) {x : Str} {xp pos : Pos} {op : Operator} {e : Expr} {a b : R} {d : D} {Q : Flow → Shared → Prop}
    (ha : getV ρ x = some a) (he : Ev Φ env.scope.names ρ (.E e b)) (hi : iopR op a b = some (d, true)) (hs : setV ρ x d = some ρ') (H : Al h₀ fz env m ρ fx) (G : Lg h₀ L m (fx ++ ext) fz s.heap) (P : PostX h₀ L env ext fz s ρ' .next Q) :
    wpAny (model prog w) A (exec (.AugAssign (.Name x xp) op e pos) env) Q E s := by
  have HR := H.all.rho FX.hl ext
  have key : ∀ {Q : Value → Shared → Prop}, Post h₀ L m (fx ++ ext) fz s (fun fz' v => RepR h₀ (fx ++ ext) fz' v a) Q → wpAny (model prog w) A (loadName env x) Q E s :=
    fun P => (get_sound (pos := xp) FX.O G HR ha P).2
  refine wpAny_AugAssign_Name (key fun va h1 tk1 add1 G1 ho1 hr1 => ?_)
  refine ev_sound X Γ he FX.O rfl m _ _ _ _ _ G1 (HR.grow add1) fun vb h2 tk2 add2 G2 ho2 hr2 => ?_
  refine iop_sound G2 (hr1.grow add2) hr2 hi fun v h3 tk3 add3 G3 ho3 hr3 => ?_
  refine store_sound FX (((H.grow add1).grow add2).grow add3) G3 hs hr3 fun h4 tk4 m4 fx4 G4 H4 => ?_
  have e1 : (add3 ++ (add2 ++ (add1 ++ fz))) = (add3 ++ (add2 ++ add1)) ++ fz := by simp
  refine P h4 tk4 m4 fx4 _ (e1 ▸ G4) ?_ (e1 ▸ H4)
  refine Off.append ((off_fz ho3).sub fun p hp => List.mem_append_right _ (List.mem_append_right _ hp)) (Off.append ((off_fz ho2).sub fun p hp => List.mem_append_right _ hp) (off_fz ho1))

theorem augAt_sound (X : Fx p loose mean mg mb A₀ A base h₀ outer fenv L dep) (Γ : Gx prog w p loose mean mg mb Φ dep) (FX : FE env L) {x : Str} {xp ip pos : Pos} {i e : Expr} {l : List D} {j : Nat} {k a b : Int} {Q : Flow → Shared → Prop}
    (hx : ρ.lookup x = some (.own l)) (hns : notSlice i = true) (hi : Ev Φ env.scope.names ρ (.E i (.int k, true)))
    (hk : (0 ≤ k ∧ k < l.length ∧ j = k.toNat) ∨ (k < 0 ∧ -(l.length : Int) ≤ k ∧ j = (k + l.length).toNat)) (hj : l[j]? = some (.int a)) (he : Ev Φ env.scope.names ρ (.E e (.int b, true)))
    (H : Al h₀ fz env m ρ fx) (G : Lg h₀ L m (fx ++ ext) fz s.heap) (P : PostX h₀ L env ext fz s (upd ρ x (.own (l.set j (.int (a + b))))) .next Q) :
    wpAny (model prog w) A (exec (.AugAssign (.Subscript (.Name x xp) i ip) .Add e pos) env) Q E s := by
  obtain ⟨hdb, ad, vs, kk, p1, p2, rfl, hkn, hm, hz', hr, kc⟩ := own_change H hx
  have ha : ∀ {s1 : Shared} {fz1}, Lg h₀ L m (p1 ++ ([(ad, lo vs kk)] ++ p2) ++ ext) fz1 s1.heap → s1.heap.get? ad = some (lo vs kk) := fun G => G.fixed (by simp)
  have HR := H.all.rho FX.hl ext
  have hlen := hr.length
  have hst : ∀ ov iv new, augStore i ov iv new = (do holding [new, ov, iv] (setItem ov iv new); release [new, ov, iv] []; pure .next) := by
    intro ov iv new
    cases i <;> first | rfl | exact absurd hns Bool.false_ne_true
  refine wpAny_AugAssign_SubscriptAny (wpAny_Name (wpAny_loadName_local FX.O.k hkn (FX.hl ▸ G.F.ns) hm ?_) hdb) hst
  refine ev_sound X Γ hi FX.O rfl m _ _ _ _ _ G HR fun vi h1 tk1 add1 G1 ho1 hr1 => ?_
  cases hr1
  rename_i ti
  have hl1 : h1.IsList ad vs.toArray := ⟨_, ha (s1 := ⟨h1, s.gens, s.drawn, tk1, s.os⟩) G1, rfl, _, rfl⟩
  obtain ⟨v0, hv0, hr0⟩ := hr.get j hj
  have hfit := line24_fit hz'
  have get : ∀ {Q : Value → Shared → Prop}, Q v0 ⟨h1, s.gens, s.drawn, tk1, s.os⟩ → wpAny (model prog w) A (getItem (.ref ad) (.int k ti)) Q E ⟨h1, s.gens, s.drawn, tk1, s.os⟩ := by
    intro Q h
    rcases hk with ⟨k0, k1, rfl⟩ | ⟨k0, k1, rfl⟩
    · exact wpAny_getItem_list hl1 k0 (by (first | lia | omega)) (by simpa using hv0) h
    · exact wpAny_getItem_list_neg hl1 k0 (by rw [List.size_toArray, hlen]; exact k1) (by (first | lia | omega)) (by rw [List.size_toArray, hlen]; simpa using hv0) h
  refine get ?_
  cases hr0
  refine ev_sound X Γ he FX.O rfl m _ _ _ _ _ G1 (HR.grow add1) fun vb h2 tk2 add2 G2 ho2 hr2 => ?_
  cases hr2
  refine PyProof.Rows.iadd_int ?_
  refine set_at (j := j) (ha (s1 := ⟨h2, s.gens, s.drawn, tk2 + 1, s.os⟩) G2) (by rw [List.size_toArray, hlen]; exact hk) (by rw [List.size_toArray]; exact hz') fun h3 n3 hs3 hD => ?_
  have e1 : p1 ++ ([(ad, lo vs kk)] ++ p2) ++ ext = p1 ++ (ad, lo vs kk) :: (p2 ++ ext) := by simp
  have e2 : (add2 ++ (add1 ++ fz)) = (add2 ++ add1) ++ fz := by simp
  have G3 : Lg h₀ L m (p1 ++ (ad, lo (vs.set j (.int (a + b) tk2)) n3) :: (p2 ++ ext)) (add2 ++ (add1 ++ fz)) h3 := Lg.replace (e1 ▸ G2) (fun b y hb ey => hs3.extBut b y hb ey) (by rw [hD]; simp [lo])
  refine P h3 _ m (p1 ++ ([(ad, lo (vs.set j (.int (a + b) tk2)) n3)] ++ p2)) (add2 ++ add1) (by rw [← e2]; simpa using G3) (Off.append ((off_fz ho2).sub fun p hp => List.mem_append_right _ hp) (off_fz ho1)) ?_
  rw [← e2]
  exact kc _ _ _ _ (fun p hp => List.mem_append_right _ (List.mem_append_right _ hp)) (by rw [List.length_set]; exact hz') ((hr.sub fun p hp => List.mem_append_right _ (List.mem_append_right _ hp)).set j (.int _ _))
end
end
section -- MS
section
variable {prog : Program} {w : World} {A : Around} {h₀ : Heap} {L : Stk} {p : Program} {loose : Heap → Prop} {mean : ExcName → Option Value} {mg mb : Str → Option Value} {A₀ : Around} {base : Heap} {outer : List Env} {fenv : Env} {dep : Nat} {Φ : Phi} {Ψ : Psi}
variable {env : Env} {ρ ρ' : Rho} {E : Value → Shared → Prop} {s : Shared} {m : Str → Option Value} {fx ext fz : Led}

theorem PostX.here {Q : Flow → Shared → Prop} (P : PostX h₀ L env ext fz s ρ .next Q) (H : Al h₀ fz env m ρ fx) (G : Lg h₀ L m (fx ++ ext) fz s.heap) : Q .next s :=
  P s.heap s.toks m fx [] G Off.nil H

theorem ownList_sound (X : Fx p loose mean mg mb A₀ A base h₀ outer fenv L dep) (Γ : Gx prog w p loose mean mg mb Φ dep) (FX : FE env L) {x : Str} {xp lp pos : Pos} {es : List Expr} {ds : List D} {f : Bool} {Q : Flow → Shared → Prop}
    (he : Ev Φ env.scope.names ρ (.S es ds f)) (hf : (f || allAtom ds) = true) (hz : ds.length ≤ line24) (hx : isLoc ρ x = true) (H : Al h₀ fz env m ρ fx) (G : Lg h₀ L m (fx ++ ext) fz s.heap) (P : PostX h₀ L env ext fz s (upd ρ x (.own ds)) .next Q) :
    wpAny (model prog w) A (exec (.Assign [.Name x xp] (.List es lp) pos) env) Q E s := by
  refine wpAny_Assign_Name (wpAny_List_spliced ((ev_sound X Γ he FX.O rfl : EvsOk prog w A h₀ L env ρ es (ds, f)).2 _ m (fx ++ ext) fz s _ _ G (H.all.rho FX.hl ext) fun vs h1 tk1 add1 G1 ho1 hr1 => ⟨by rw [hr1.length]; exact Nat.le_trans hz line24_le, ?_⟩)) rfl
  have hr2 : Reps h₀ (add1 ++ fz) vs ds := reps_flag hr1 hf id _ fun p hp => hp
  have G2 : Lg h₀ L m ((h1.objs.size, lo vs 0) :: (fx ++ ext)) (add1 ++ fz) (h1.push { cls := .type "list", data := .seq vs.toArray }) :=
    G1.newFix (fun b x e => Heap.get?_push_of_some _ e) (Heap.get?_push_size _ rfl) (Nat.le_refl _)
  exact store_own FX (H.grow add1) G2 hx (by rw [hr1.length]; exact hz) hr2 fun h3 tk3 m3 fx3 G3 H3 => P h3 tk3 m3 fx3 add1 G3 (off_fz ho1) H3

theorem callOwn_sound (X : Fx p loose mean mg mb A₀ A base h₀ outer fenv L dep) (Γ : Gx prog w p loose mean mg mb Φ dep) (ΓO : GxO prog w p loose mean mg mb Ψ dep) (FX : FE env L) {x g : Str} {xp gp cp pos : Pos} {es : List Expr} {ds l : List D} {Q : Flow → Shared → Prop}
    (hk : env.scope.names.lookup g = some .globalImplicit) (he : Ev Φ env.scope.names ρ (.S es ds true)) (hl : Ψ g ds = some l) (hx : isLoc ρ x = true) (H : Al h₀ fz env m ρ fx) (G : Lg h₀ L m (fx ++ ext) fz s.heap) (P : PostX h₀ L env ext fz s (upd ρ x (.own l)) .next Q) :
    wpAny (model prog w) A (exec (.Assign [.Name x xp] (.Call (.Name g gp) es [] cp) pos) env) Q E s := by
  obtain ⟨hs, I⟩ := ev_sound X Γ he FX.O rfl
  obtain ⟨hdb, rc, hrc, hname, hcall⟩ := ΓO.psi g ds l hl
  obtain ⟨a, o, pm, code, doc, hmg, hob, hfd, _⟩ := X.T.fn rc hrc
  rw [hname] at hmg
  refine wpAny_Assign_Name (Call_Name_ (global_sound FX.O G X.T.g X.T.b hk hdb (.inl hmg) ?_)) rfl
  refine callWith_function (o := o) (evalArgs_all hs (I cp m _ fz s _ _ G (H.all.rho FX.hl ext) fun vs h1 tk1 add1 G1 ho1 hr1 => ⟨⟨G1.F.keep _ _ hob, hfd⟩, ?_⟩))
  refine hcall _ hmg A₀ A base h₀ outer fenv L m _ (add1 ++ fz) _ vs _ _ X G1 hr1 fun b ys k h2 tk2 add2 G2 ho2 hz hr2 => ?_
  refine store_own FX ((H.grow add1).grow add2) G2 hx hz hr2 fun h3 tk3 m3 fx3 G3 H3 => ?_
  rw [← List.append_assoc] at G3 H3
  exact P h3 tk3 m3 fx3 (add2 ++ add1) G3 (Off.append ((off_fz ho2).sub fun p hp => List.mem_append_right _ hp) (off_fz ho1)) H3

theorem asg_any (X : Fx p loose mean mg mb A₀ A base h₀ outer fenv L dep) (Γ : Gx prog w p loose mean mg mb Φ dep) (FX : FE env L) {tgt e : Expr} {pos : Pos} {d : D} {Q : Flow → Shared → Prop}
    (he : Ev Φ env.scope.names ρ (.E e (d, true))) (hx : asgD ρ tgt d = some ρ') (ht : tgtOk tgt e = true) (H : Al h₀ fz env m ρ fx) (G : Lg h₀ L m (fx ++ ext) fz s.heap) (P : PostX h₀ L env ext fz s ρ' .next Q) :
    wpAny (model prog w) A (exec (.Assign [tgt] e pos) env) Q E s := by
  have hx' := hx
  unfold asgD at hx'
  split at hx'
  · exact asgName_sound X Γ FX (Bool.and_eq_true_iff.mp ht).1 he hx' H G P
  · exact asgPair_sound X Γ FX he hx ht H G P
  · cases hx'

theorem ret_sound (X : Fx p loose mean mg mb A₀ A base h₀ outer fenv L dep) (Γ : Gx prog w p loose mean mg mb Φ dep) (FX : FE env L) {e : Expr} {pos : Pos} {d : D} {Q : Flow → Shared → Prop}
    (he : Ev Φ env.scope.names (froz ρ) (.E e (d, true))) (H : Al h₀ fz env m ρ fx) (G : Lg h₀ L m (fx ++ ext) fz s.heap) (P : PostX h₀ L env ext fz s ρ' (.ret d) Q) :
    wpAny (model prog w) A (exec (.Return (some e) pos) env) Q E s := by
  obtain ⟨add, kp, pm, k⟩ := H.all.froz
  have pm' : (fx ++ ext).Perm (add ++ (kp ++ ext)) := by rw [← List.append_assoc]; exact pm.append_right ext
  obtain ⟨G1, ho⟩ := (G.perm pm').freezes
  have H1 : Al h₀ (add ++ fz) env m (froz ρ) kp := ⟨by rw [froz_keys]; exact H.nd, k _ (fun p hp => List.mem_append_right _ hp) fun p hp => List.mem_append_left _ hp⟩
  refine wpAny_Return_some (ev_sound X Γ he FX.O rfl m (kp ++ ext) (add ++ fz) s _ _ G1 (H1.all.rho FX.hl ext) fun v h1 tk1 add1 G2 ho1 hr1 => ?_)
  have e1 : add1 ++ (add ++ fz) = (add1 ++ add) ++ fz := by simp
  exact P v h1 tk1 m kp (add1 ++ add) (e1 ▸ G2) (Off.append ((off_fz ho1).sub fun p hp => List.mem_append_right _ hp) (off_fz ho)) (e1 ▸ hr1)

theorem run_sound (X : Fx p loose mean mg mb A₀ A base h₀ outer fenv L dep) (Γ : Gx prog w p loose mean mg mb Φ dep) (ΓO : GxO prog w p loose mean mg mb Ψ dep) (FX : FE env L) {t : Tsk} {f : Flw} (r : Run Φ Ψ env.scope.names t ρ ρ' f) :
    TGoal prog w A h₀ L env ρ ρ' f t := by
  generalize hnm : env.scope.names = nm at r
  induction r with
  | nil => exact fun m fx ext fz s E Q H G P => wpAny_execs_nil (P.here H G)
  | cons _ _ ih1 ih2 =>
    intro m fx ext fz s E Q H G P
    exact wpAny_execs_cons (ih1 m fx ext fz s E _ H G fun h' tk' m' fx' add G' ho H' => ih2 m' fx' ext (add ++ fz) _ E Q H' G' (P.later ho))
  | frz _ ih =>
    intro m fx ext fz s E Q H G P
    obtain ⟨add, kp, pm, k⟩ := H.all.froz
    have pm' : (fx ++ ext).Perm (add ++ (kp ++ ext)) := by rw [← List.append_assoc]; exact pm.append_right ext
    obtain ⟨G1, ho⟩ := (G.perm pm').freezes
    exact ih m kp ext (add ++ fz) s E Q ⟨by rw [froz_keys]; exact H.nd, k _ (fun p hp => List.mem_append_right _ hp) fun p hp => List.mem_append_left _ hp⟩ G1 (P.later (h1 := s.heap) (tk1 := s.toks) (off_fz ho))
  | @stop s r ρ ρ₁ f _ hf ih1 =>
    intro m fx ext fz s E Q H G P
    refine wpAny_execs_cons (ih1 m fx ext fz s E _ H G ?_)
    cases f with
    | next => exact absurd rfl hf
    | brk => exact P
    | cont => exact P
    | ret d => exact P
  | asg he hx ht => subst hnm; exact fun m fx ext fz s E Q H G P => asg_any X Γ FX he hx ht H G P
  | own he hf hz hx => subst hnm; exact fun m fx ext fz s E Q H G P => ownList_sound X Γ FX he hf hz hx H G P
  | callOwn hk he hl hx => subst hnm; exact fun m fx ext fz s E Q H G P => callOwn_sound X Γ ΓO FX hk he hl hx H G P
  | aug ha he hi hs => subst hnm; exact fun m fx ext fz s E Q H G P => aug_sound X Γ FX ha he hi hs H G P
  | augAt hx hns hi hk hj he => subst hnm; exact fun m fx ext fz s E Q H G P => augAt_sound X Γ FX hx hns hi hk hj he H G P
  | append hx he hf hz hp hn => subst hnm; exact fun m fx ext fz s E Q H G P => append_sound X Γ FX hx he hf hz hp hn H G P
  | extend hx he hf hz hp hn => subst hnm; exact fun m fx ext fz s E Q H G P => extend_sound X Γ FX hx he hf hz hp hn H G P
  | reverse hx hp => exact fun m fx ext fz s E Q H G P => reverse_sound FX hx hp H G P
  | @ite test body orelse pos b ρ ρ' f ht _ ih =>
    subst hnm
    intro m fx ext fz s E Q H G P
    refine wpAny_If (ev_sound X Γ ht FX.O rfl m (fx ++ ext) fz s _ _ G (H.all.rho FX.hl ext) fun c h1 tk1 add1 G1 ho1 hr1 => ?_)
    subst hr1
    have := ih m fx ext (add1 ++ fz) _ E Q (H.grow add1) G1 (P.later (h1 := h1) (tk1 := tk1) (off_fz ho1))
    cases c with
    | true => exact this
    | false => exact this
  | ret he => subst hnm; exact fun m fx ext fz s E Q H G P => ret_sound X Γ FX he H G P
  | @«for» tgt it body pos ds ρ ρ' f hset hI _ ih =>
    subst hnm
    intro m fx ext fz s E Q H G P
    refine wpAny_For (ev_sound X Γ hI FX.O rfl m (fx ++ ext) fz s _ _ G (H.all.rho FX.hl ext) fun I oI h1 tk1 add fp PP St GI ho1 T hlen => ?_) (fun x => by cases it <;> first | rfl | cases hset)
    refine ih m fx ext (add ++ fz) ⟨h1, s.gens, s.drawn, tk1, s.os⟩ _ I oI fp PP St ds 0 (fx ++ ext) (add ++ fz) h1 (H.grow add) (GI.perm List.perm_middle.symm) T (fun p hp => hp) (by simp) (Nat.zero_le _) T.st ?_
    exact (P.later (h1 := h1) (tk1 := tk1) (off_fz ho1))
  | «while» _ ih => exact fun m fx ext fz s E Q H G P => wpAny_While (ih m fx ext fz s _ H G P)
  | @fnil tgt body ρ =>
    intro m fx ext fz s R I oI fp PP St items i fx0 fz0 hp0 H G T hs0 hds hi hst P
    have hi' : i = items.length := by
      have := congrArg List.length hds
      simp at this; (first | lia | omega)
    subst hi'
    refine for_step (T.W.done _ _ _ hst fun h2 tk2 hk2 => ?_)
    have G2 : Lg h₀ L m (fx ++ ext) fz h2 := (G.perm List.perm_middle).leave fun b x hb e => hk2 b x (by simpa using hb) e
    exact wpAny_execs_nil (P h2 tk2 m fx [] G2 Off.nil H)
  | @fcons tgt body d ds ρ ρ₁ ρ₂ ρ₃ f g ha _ hf _ ihB ihF =>
    intro m fx ext fz s R I oI fp PP St items i fx0 fz0 hp0 H G T hs0 hds hi hst P
    have hil : i < items.length := by
      rcases Nat.lt_or_ge i items.length with h | h
      · exact h
      · rw [List.drop_eq_nil_of_le h] at hds; cases hds
    have hdi : items[i]? = some d := by
      have := congrArg List.head? hds
      simpa [List.head?_drop] using this.symm
    have hdr : ds = items.drop (i + 1) := by
      have := congrArg List.tail hds
      simpa [List.tail_drop] using this
    refine for_step (T.W.item i _ _ _ hil hst fun v h2 tk2 hv hst2 hk2 => ?_)
    obtain ⟨oI2, nI2, hI2, hcI2, hgI2⟩ := T.cls _ _ hst2
    have G2 : Lg h₀ L m (fx ++ (I, oI2) :: ext) fz h2 := G.replace (fun b x hb e => hk2 b x (by simpa using hb) e) hI2
    refine go_sound (s := ⟨h2, s.gens, s.drawn, tk2, s.os⟩) hI2 hcI2 hgI2 ?_
    obtain ⟨d', hd', hr⟩ := T.item i v hil hv
    rw [hdi] at hd'
    cases hd'
    refine asg_sound X.hh FX H G2 ha (hr.sub hs0) fun h3 tk3 m3 fx3 G3 H3 => ?_
    have P3 : PostX h₀ L env ((I, oI2) :: ext) fz ⟨h3, s.gens, s.drawn, tk3, s.os⟩ ρ₂ f (fun f s₃ => match f with
            | .next | .cont => codeAny (model prog w) A (.forLoop tgt (.ref I) body [] env) R s₃
            | .brk => R (.ok .next) s₃
            | .ret v => R (.ok (.ret v)) s₃) := by
      have key : ∀ h4 tk4 m4 fx4 add4, Lg h₀ L m4 (fx4 ++ (I, oI2) :: ext) (add4 ++ fz) h4 → Off add4 fz → Al h₀ (add4 ++ fz) env m4 ρ₂ fx4 → codeAny (model prog w) A (.forLoop tgt (.ref I) body [] env) R { s with heap := h4, toks := tk4 } := by
        intro h4 tk4 m4 fx4 add4 G4 ho4 H4
        have hst4 : St (i + 1) h4 := T.carry (h' := h2) G2 G4 hs0 (fun p hp => List.mem_append_right _ (hs0 p hp)) hI2 (G4.fixed (by simp)) hst2
        exact ihF m4 fx4 ext (add4 ++ fz) _ R I oI2 fp PP St items (i + 1) fx0 fz0 hp0 H4 G4 T (fun p hp => List.mem_append_right _ (hs0 p hp)) hdr hil hst4 (P.later ho4)
      rcases hf with rfl | rfl
      · exact key
      · exact key
    exact ihB m3 fx3 ((I, oI2) :: ext) fz _ _ _ H3 G3 P3
  | @fret tgt body d ds ρ ρ₁ ρ₂ x ha _ ihB =>
    intro m fx ext fz s R I oI fp PP St items i fx0 fz0 hp0 H G T hs0 hds hi hst P
    have hil : i < items.length := by
      rcases Nat.lt_or_ge i items.length with h | h
      · exact h
      · rw [List.drop_eq_nil_of_le h] at hds; cases hds
    have hdi : items[i]? = some d := by
      have := congrArg List.head? hds
      simpa [List.head?_drop] using this.symm
    refine for_step (T.W.item i _ _ _ hil hst fun v h2 tk2 hv hst2 hk2 => ?_)
    obtain ⟨oI2, nI2, hI2, hcI2, hgI2⟩ := T.cls _ _ hst2
    have G2 : Lg h₀ L m (fx ++ (I, oI2) :: ext) fz h2 := G.replace (fun b x hb e => hk2 b x (by simpa using hb) e) hI2
    refine go_sound (s := ⟨h2, s.gens, s.drawn, tk2, s.os⟩) hI2 hcI2 hgI2 ?_
    obtain ⟨d', hd', hr⟩ := T.item i v hil hv
    rw [hdi] at hd'
    cases hd'
    refine asg_sound X.hh FX H G2 ha (hr.sub hs0) fun h3 tk3 m3 fx3 G3 H3 => ?_
    refine ihB m3 fx3 ((I, oI2) :: ext) fz _ _ _ H3 G3 ?_
    intro v h4 tk4 m4 fx4 add4 G4 ho4 hr4
    exact P v h4 tk4 m4 fx4 add4 (Lg.dropFix (G4.perm List.perm_middle)) ho4 hr4
  | wend ht =>
    subst hnm
    intro m fx ext fz s R H G P
    refine while_step (ev_sound X Γ ht FX.O rfl m (fx ++ ext) fz s _ _ G (H.all.rho FX.hl ext) fun c h1 tk1 add1 G1 ho1 hr1 => ?_)
    subst hr1
    exact wpAny_execs_nil (P h1 tk1 m fx add1 G1 (off_fz ho1) (H.grow add1))
  | @wcons test body ρ ρ₁ ρ₂ f g ht _ hf _ ihB ihW =>
    subst hnm
    intro m fx ext fz s R H G P
    refine while_step (ev_sound X Γ ht FX.O rfl m (fx ++ ext) fz s _ _ G (H.all.rho FX.hl ext) fun c h1 tk1 add1 G1 ho1 hr1 => ?_)
    subst hr1
    have P1 := P.later (h1 := h1) (tk1 := tk1) (off_fz ho1)
    have key : ∀ h4 tk4 m4 fx4 add4, Lg h₀ L m4 (fx4 ++ ext) (add4 ++ (add1 ++ fz)) h4 → Off add4 (add1 ++ fz) → Al h₀ (add4 ++ (add1 ++ fz)) env m4 ρ₁ fx4 → codeAny (model prog w) A (.whileLoop test body [] env) R { s with heap := h4, toks := tk4 } :=
      fun h4 tk4 m4 fx4 add4 G4 ho4 H4 => ihW m4 fx4 ext _ _ R H4 G4 (P1.later ho4)
    refine ihB m fx ext (add1 ++ fz) ⟨h1, s.gens, s.drawn, tk1, s.os⟩ _ _ (H.grow add1) G1 ?_
    rcases hf with rfl | rfl
    · exact key
    · exact key
  | @wret test body ρ ρ₁ x ht _ ihB =>
    subst hnm
    intro m fx ext fz s R H G P
    refine while_step (ev_sound X Γ ht FX.O rfl m (fx ++ ext) fz s _ _ G (H.all.rho FX.hl ext) fun c h1 tk1 add1 G1 ho1 hr1 => ?_)
    subst hr1
    exact ihB m fx ext (add1 ++ fz) ⟨h1, s.gens, s.drawn, tk1, s.os⟩ _ _ (H.grow add1) G1 (P.later (h1 := h1) (tk1 := tk1) (off_fz ho1))
end
end
section -- MT
/-! ## entering a function -/
noncomputable def cellKeys (sc : Scope) : List Str := (cellsFrom 0 sc.names []).map (·.1)
noncomputable def localKeys (sc : Scope) : List Str := sc.names.filterMap fun x => if x.2 == .local then some x.1 else none
noncomputable def rho0 (sc : Scope) (xs : List Str) (ds : List D) : Rho :=
  ((cellKeys sc).map fun n => (n, Slot.cel ((xs.zip ds).lookup n))) ++ (localKeys sc).map fun n => (n, match (xs.zip ds).lookup n with
    | some d => .val d
    | none => .unset)
noncomputable def fnOk (sc : Scope) (xs : List Str) : Bool :=
  decide ((cellKeys sc ++ localKeys sc).Nodup) && (cellKeys sc).all (fun n => sc.names.lookup n == some .cell) && (localKeys sc).all (fun n => sc.names.lookup n == some .local) &&
  (cellKeys sc ++ localKeys sc).all (fun n => !(n == Str.ofString "__debug__")) && decide xs.Nodup && xs.all (fun n => sc.names.lookup n == some .local || sc.names.lookup n == some .cell) && sc.kind == .function && !sc.isCoroutine && !sc.isGenerator &&
  sc.names.all (fun x => if sc.names.lookup x.1 == some .cell then (cellKeys sc).contains x.1 else true)

theorem cellsFrom_snd : ∀ (names : List (Str × NameKind)) (n : Nat) (acc : List (Str × Addr)), (acc.map (·.2)).Nodup → (∀ p ∈ acc, p.2 < n) → ((cellsFrom n names acc).map (·.2)).Nodup
  | [], _, _, h, _ => h
  | (x, k) :: r, n, acc, h, hl => by
    unfold cellsFrom
    split
    · refine cellsFrom_snd r (n + 1) _ ?_ fun p hp => ?_
      · rw [List.map_cons, List.nodup_cons]
        refine ⟨fun hm => ?_, h⟩
        obtain ⟨q, hq, e⟩ := List.mem_map.mp hm
        have := hl q hq
        rw [e] at this
        exact Nat.lt_irrefl _ this
      · rcases List.mem_cons.mp hp with rfl | hp
        · exact Nat.lt_succ_self _
        · exact Nat.lt_succ_of_lt (hl p hp)
    · exact cellsFrom_snd r n acc h hl
theorem cellsFrom_ge : ∀ (names : List (Str × NameKind)) (n k : Nat) (acc : List (Str × Addr)), (∀ p ∈ acc, k ≤ p.2) → k ≤ n → ∀ p ∈ cellsFrom n names acc, k ≤ p.2
  | [], _, _, _, h, _ => h
  | (x, kd) :: r, n, k, acc, h, hk => by
    unfold cellsFrom
    split
    · refine cellsFrom_ge r (n + 1) k _ (fun p hp => ?_) (Nat.le_succ_of_le hk)
      rcases List.mem_cons.mp hp with rfl | hp
      · exact hk
      · exact h p hp
    · exact cellsFrom_ge r n k acc h hk
theorem cellsAre_addr {cm : Str → Option Value} {cs : List (Str × Addr)} {cells : List (Addr × Obj)} (x : CellsAre cm cs cells) : cells.map (·.1) = cs.map (·.2) := by
  induction x with
  | nil => rfl
  | cons _ _ ih => rw [List.map_cons, List.map_cons, ih]

theorem bindL_at (k : Str → Option NameKind) : ∀ (binds : List (Str × Value)) (m : Str → Option Value) (n : Str), (binds.map (·.1)).Nodup → k n = some .local → bindL k binds m n = match binds.lookup n with
    | some v => some v
    | none => m n
  | [], m, n, _, _ => rfl
  | (y, v) :: r, m, n, hn, hk => by
    rw [List.map_cons, List.nodup_cons] at hn
    unfold bindL
    rw [bindL_at k r _ n hn.2 hk, List.lookup_cons]
    by_cases e : n = y
    · subst e
      have : r.lookup n = none := by
        cases q : r.lookup n with
        | none => rfl
        | some v => exact absurd (List.mem_map.mpr ⟨_, mem_of_lookup' q, rfl⟩) hn.1
      simp [this, hk]
    · have hb : (n == y) = false := by simpa using e
      rw [hb]
      cases q : r.lookup n with
      | some v => rfl
      | none =>
        dsimp only
        split
        · show (if n = y then _ else _) = _; rw [if_neg e]
        · rfl
theorem bindC_at (k : Str → Option NameKind) : ∀ (binds : List (Str × Value)) (m : Str → Option Value) (n : Str), (binds.map (·.1)).Nodup → k n ≠ some .local → bindC k binds m n = match binds.lookup n with
    | some v => some v
    | none => m n
  | [], m, n, _, _ => rfl
  | (y, v) :: r, m, n, hn, hk => by
    rw [List.map_cons, List.nodup_cons] at hn
    unfold bindC
    rw [bindC_at k r _ n hn.2 hk, List.lookup_cons]
    by_cases e : n = y
    · subst e
      have : r.lookup n = none := by
        cases q : r.lookup n with
        | none => rfl
        | some v => exact absurd (List.mem_map.mpr ⟨_, mem_of_lookup' q, rfl⟩) hn.1
      simp [this, hk]
    · have hb : (n == y) = false := by simpa using e
      rw [hb]
      cases q : r.lookup n with
      | some v => rfl
      | none =>
        dsimp only
        split
        · rfl
        · show (if n = y then _ else _) = _; rw [if_neg e]

theorem zip_rep {h₀ : Heap} {fz : Led} : ∀ {xs : List Str} {vs : List Value} {ds : List D} {n : Str} {d : D}, Reps h₀ fz vs ds → (xs.zip ds).lookup n = some d → ∃ v, (xs.zip vs).lookup n = some v ∧ Rep h₀ fz v d
  | [], _, _, _, _, _, h => by simp at h
  | x :: xs, _, _, n, d, .nil, h => by simp at h
  | x :: xs, _, _, n, d, .cons r rs, h => by
    rw [List.zip_cons_cons, List.lookup_cons] at h ⊢
    split at h
    · cases h; exact ⟨_, rfl, r⟩
    · exact zip_rep rs h

theorem Als.append {h₀ : Heap} {fz : Led} {env : Env} {m : Str → Option Value} {ρ₁ ρ₂ : Rho} {f₁ f₂ : Led} (h1 : Als h₀ fz env m ρ₁ f₁) (h2 : Als h₀ fz env m ρ₂ f₂) : Als h₀ fz env m (ρ₁ ++ ρ₂) (f₁ ++ f₂) := by
  induction h1 with
  | nil => exact h2
  | cons hd h _ ih => rw [List.cons_append, List.append_assoc]; exact .cons hd h ih

section
variable {prog : Program} {w : World} {A : Around} {h₀ : Heap} {L : Stk} {p : Program} {loose : Heap → Prop} {mean : ExcName → Option Value} {mg mb : Str → Option Value} {A₀ : Around} {base : Heap} {outer : List Env} {fenv : Env} {dep : Nat}
variable {s : Shared} {m : Str → Option Value} {fix fz : Led} {R : Result → Shared → Prop} {name : Str} {params : Arguments} {body : List Stmt} {scope : Scope} {doc pm cdv : Value} {fo : Obj} {f : Addr} {args : Args} {binds : List (Str × Value)}

/-- the ledger as the called function sees it -/
theorem Lg.enter {h h₁ : Heap} {cells : Led} {m' : Str → Option Value} (G : Lg h₀ L m fix fz h) (hk : ∀ b o, h.get? b = some o → h₁.get? b = some o) (ns : h₁.Ns h.objs.size m')
    (gc : ∀ q ∈ cells, h₁.get? q.1 = some q.2) (high : ∀ q ∈ cells, h.objs.size + 1 ≤ q.1) (nd : (cells.map (·.1)).Nodup) : Lg h₀ ⟨h.objs.size, (L.a, m) :: L.up⟩ m' (cells ++ fix) fz h₁ := by
  obtain ⟨hd, G0, TT, UU⟩ := G
  obtain ⟨oL, hoL, hnL⟩ := LCg.ns_obj G0.F.ns
  have hLl := Heap.lt_size hoL
  have hab : h₀.objs.size ≤ h.objs.size := Nat.le_trans G0.F.above (Nat.le_of_lt hLl)
  have h0L : h₀.get? L.a = none := by
    cases q : h₀.get? L.a with
    | none => rfl
    | some o => exact absurd (Nat.lt_of_lt_of_le (Heap.lt_size q) G0.F.above) (Nat.lt_irrefl _)
  have low : ∀ q ∈ (fix ++ hd) ++ fz, q.1 < h.objs.size := fun q hq => Heap.lt_size (G0.N q hq).1
  have pm : ((cells ++ fix) ++ ((L.a, oL) :: hd)).Perm ((L.a, oL) :: (cells ++ (fix ++ hd))) := by
    refine List.perm_middle.trans ?_
    rw [List.append_assoc]
  have hmem : ∀ q, q ∈ (cells ++ fix) ++ ((L.a, oL) :: hd) → q = (L.a, oL) ∨ q ∈ cells ∨ q ∈ fix ++ hd := fun q hq => by
    have := pm.mem_iff.mp hq
    simpa only [List.mem_cons, List.mem_append] using this
  refine ⟨(L.a, oL) :: hd, ⟨⟨ns, fun b o e => hk _ _ (G0.F.keep b o e), hab⟩, fun q hq => ?_, ?_, fun q hq r hr => ?_⟩, fun t ht => ?_, fun q hq => ?_⟩
  · rcases List.mem_append.mp hq with hq | hq
    · rcases hmem q hq with rfl | hq | hq
      · exact ⟨hk _ _ hoL, Nat.ne_of_lt hLl, h0L⟩
      · refine ⟨gc q hq, Nat.ne_of_gt (high q hq), ?_⟩
        cases e : h₀.get? q.1 with
        | none => rfl
        | some o => exact absurd (Nat.lt_of_lt_of_le (Heap.lt_size e) (Nat.le_trans hab (Nat.le_of_succ_le (high q hq)))) (Nat.lt_irrefl _)
      · have := G0.N q (List.mem_append_left _ hq)
        exact ⟨hk _ _ this.1, Nat.ne_of_lt (low q (List.mem_append_left _ hq)), this.2.2⟩
    · have := G0.N q (List.mem_append_right _ hq)
      exact ⟨hk _ _ this.1, Nat.ne_of_lt (low q (List.mem_append_right _ hq)), this.2.2⟩
  · refine (pm.map (·.1)).nodup_iff.mpr ?_
    rw [List.map_cons, List.nodup_cons, List.map_append, List.nodup_append]
    refine ⟨fun hm => ?_, nd, G0.nd, fun a ha b hb => ?_⟩
    · rcases List.mem_append.mp hm with hm | hm
      · obtain ⟨q, hq, e⟩ := List.mem_map.mp hm
        have h1 := high q hq
        have e' : q.1 = L.a := e
        rw [e'] at h1
        exact absurd hLl (Nat.not_lt.mpr (Nat.le_of_succ_le h1))
      · obtain ⟨q, hq, e⟩ := List.mem_map.mp hm
        exact (G0.N q (List.mem_append_left _ hq)).2.1 e
    · obtain ⟨q, hq, rfl⟩ := List.mem_map.mp ha
      obtain ⟨r, hr, rfl⟩ := List.mem_map.mp hb
      exact Nat.ne_of_gt (Nat.lt_of_lt_of_le (low r (List.mem_append_left _ hr)) (Nat.le_of_succ_le (high q hq)))
  · rcases hmem q hq with rfl | hq | hq
    · exact (G0.N r (List.mem_append_right _ hr)).2.1.symm
    · exact Nat.ne_of_gt (Nat.lt_of_lt_of_le (low r (List.mem_append_right _ hr)) (Nat.le_of_succ_le (high q hq)))
    · exact G0.dj q hq r hr
  · obtain ⟨ps, h1, h2, h3⟩ := TT t ht
    exact ⟨ps, List.mem_cons_of_mem _ h1, h2, h3⟩
  · rcases List.mem_cons.mp hq with rfl | hq
    · exact ⟨oL, List.mem_cons_self, hnL⟩
    · obtain ⟨o, ho, hn⟩ := UU q hq
      exact ⟨o, List.mem_cons_of_mem _ ho, hn⟩

/-- and as the caller sees it again -/
theorem Lg.exit {h h' : Heap} {fx' fix' fz' : Led} {m' : Str → Option Value} {a' : Addr} (G : Lg h₀ L m fix fz h) (G' : Lg h₀ ⟨a', (L.a, m) :: L.up⟩ m' (fx' ++ fix') fz' h') : Lg h₀ L m fix' fz' h' := by
  obtain ⟨hd0, G0, _, UU0⟩ := G
  obtain ⟨hd, G1, TT, UU⟩ := G'
  obtain ⟨oL, hoL, hnL⟩ := UU (L.a, m) List.mem_cons_self
  obtain ⟨d1, d2, rfl⟩ := List.append_of_mem hoL
  have e0 : (fx' ++ fix') ++ (d1 ++ (L.a, oL) :: d2) = (fx' ++ fix' ++ d1) ++ (L.a, oL) :: d2 := by simp
  have G2 : Lg0 h₀ a' m' ((fx' ++ fix' ++ d1) ++ (L.a, oL) :: d2) fz' h' := e0 ▸ G1
  obtain ⟨n1, n2, n3⟩ := G2.ne_fix
  have gL : h'.get? L.a = some oL := (G2.N (L.a, oL) (List.mem_append_left _ (List.mem_append_right _ List.mem_cons_self))).1
  have keepHd : ∀ {b : Addr} {o : Obj}, (b, o) ∈ d1 ++ (L.a, oL) :: d2 → b ≠ L.a → (b, o) ∈ d1 ++ d2 := fun hm hb => by
    rcases List.mem_append.mp hm with hm | hm
    · exact List.mem_append_left _ hm
    · rcases List.mem_cons.mp hm with hm | hm
      · exact absurd (congrArg Prod.fst hm) hb
      · exact List.mem_append_right _ hm
  have sub : ∀ q ∈ fix' ++ (d1 ++ d2), q ∈ (fx' ++ fix' ++ d1) ++ (L.a, oL) :: d2 ∧ q.1 ≠ L.a := fun q hq => by
    simp only [List.mem_append] at hq
    rcases hq with hq | hq | hq
    · exact ⟨by simp [hq], n1 q (by simp [hq])⟩
    · exact ⟨by simp [hq], n1 q (by simp [hq])⟩
    · exact ⟨by simp [hq], n2 q hq⟩
  refine ⟨d1 ++ d2, ⟨⟨hnL.ns gL, G1.F.keep, G0.F.above⟩, fun q hq => ?_, ?_, fun q hq r hr => G2.dj q (sub q hq).1 r hr⟩, fun t ht => ?_, fun q hq => ?_⟩
  · rcases List.mem_append.mp hq with hq | hq
    · have := G2.N q (List.mem_append_left _ (sub q hq).1)
      exact ⟨this.1, (sub q hq).2, this.2.2⟩
    · have := G2.N q (List.mem_append_right _ hq)
      exact ⟨this.1, n3 q hq, this.2.2⟩
  · have := G2.nd
    refine List.Sublist.nodup ?_ this
    refine List.Sublist.map _ ?_
    have e : fix' ++ (d1 ++ d2) = (fix' ++ d1) ++ d2 := by simp
    rw [e]
    refine List.Sublist.append ?_ (List.sublist_cons_self _ _)
    rw [List.append_assoc]
    exact List.sublist_append_right _ _
  · obtain ⟨ps, h1, h2, h3⟩ := TT t ht
    refine ⟨ps, keepHd h1 fun e => ?_, h2, h3⟩
    have g1 : h'.get? t.1 = some (tabObj ps) := (G1.N _ (List.mem_append_left _ (List.mem_append_right _ h1))).1
    rw [e, gL] at g1
    cases g1
    obtain ⟨es, ep, hd, _⟩ := hnL
    cases hd
  · obtain ⟨o, ho, hn⟩ := UU q (List.mem_cons_of_mem _ hq)
    obtain ⟨o0, ho0, _⟩ := UU0 q hq
    exact ⟨o, keepHd ho (G0.N _ (List.mem_append_left _ (List.mem_append_right _ ho0))).2.1, hn⟩

theorem my_call (X : Fx p loose mean mg mb A₀ A base h₀ outer fenv L (dep + 1)) (G : Lg h₀ L m fix fz s.heap) (ho : s.heap.get? f = some fo) (hd : fo.data = .func (docDef name params body scope pm cdv doc)) (hcd : s.heap.CodeRec cdv name)
    (hbind : BindsTo s (docDef name params body scope pm cdv doc) args binds)
    (hkind : ∀ n, ∀ x ∈ binds, scope.names.lookup x.1 = some .local ∨ (scope.names.lookup x.1 = some .cell ∧ ((cellsFrom n scope.names []).lookup x.1).isSome = true))
    (hnd : ((cellsFrom 0 scope.names []).map (·.1)).Nodup)
    (h : ∀ L' h₁ tk cells, Lg h₀ ⟨L', (L.a, m) :: L.up⟩ (bindL (envOfC name scope L' f cdv).kindOf binds fun _ => none) (cells ++ fix) fz h₁ → CellsAre (bindC (envOfC name scope L' f cdv).kindOf binds fun _ => none) (cellsFrom (L' + 1) scope.names []) cells →
      Fx p loose mean mg mb A (A.deeper (envOfC name scope L' f cdv)) base h₀ (fenv :: outer) (envOfC name scope L' f cdv) ⟨L', (L.a, m) :: L.up⟩ dep →
      wpAny (model prog w) (A.deeper (envOfC name scope L' f cdv)) (execs body (envOfC name scope L' f cdv))
        (fun fl s' => ∃ m' fx' fix' fz', Lg h₀ ⟨L', (L.a, m) :: L.up⟩ m' (fx' ++ fix') fz' s'.heap ∧ (Lg h₀ L m fix' fz' s'.heap → R (.ok (.ret (match fl with | .ret v => v | _ => .none))) s'))
        (fun e s' => wpAny (model prog w) (A.deeper (envOfC name scope L' f cdv)) (leaving (envOfC name scope L' f cdv) e) (fun _ s'' => R (.error e) s'') (fun e' s'' => R (.error e') s'') s') { s with heap := h₁, toks := tk })
    (hco : scope.isCoroutine = false) (hgen : scope.isGenerator = false) (hk : scope.kind = .function) : codeAny (model prog w) A (.call (.ref f) args) R s := by
  refine codeAny_call_function (Nat.lt_of_le_of_lt (Nat.le_add_right _ _) X.room) ho hd hco hgen rfl hcd (hbind _ _ _ _ ?_)
  refine wpAny_newFunctionEnv_cells hk (hkind _) fun env' he s' x => ?_
  subst he
  refine ⟨(X.T.nolimit.keeps G.F.keep).keeps x.toInCall.keep, codeAny_func ?_⟩
  obtain ⟨h₁, tk, rfl, _⟩ := x.done
  have hk₁ := x.toInCall.keep
  obtain ⟨cells, NC, Y⟩ := Cl.news (h₀ := s.heap) (Nat.le_refl _) fun n c hm => ⟨x.cell n c (lookup_of_mem_nodup (cellsFrom_names scope.names 0 (s.heap.objs.size + 1) [] [] rfl ▸ hnd) hm), x.above n c hm⟩
  have caddr : cells.map (·.1) = (cellsFrom (s.heap.objs.size + 1) scope.names []).map (·.2) := cellsAre_addr Y
  have high : ∀ q ∈ cells, s.heap.objs.size + 1 ≤ q.1 := fun q hq => by
    have : q.1 ∈ cells.map (·.1) := List.mem_map_of_mem hq
    rw [caddr] at this
    obtain ⟨c, hc, e⟩ := List.mem_map.mp this
    rw [← e]
    exact cellsFrom_ge _ _ _ _ (by simp) (Nat.le_refl _) c hc
  have L1 := G.enter hk₁ x.toInCall.ns (fun q hq => (NC q hq).1) high (by rw [caddr]; exact cellsFrom_snd _ _ _ List.nodup_nil (by simp))
  have FX : Fx p loose mean mg mb A (A.deeper (envOfC name scope s.heap.objs.size f cdv)) base h₀ (fenv :: outer) (envOfC name scope s.heap.objs.size f cdv) ⟨s.heap.objs.size, (L.a, m) :: L.up⟩ dep :=
    ⟨⟨by rw [List.map_cons, List.map_cons, X.up.1, X.hf], fun env he => by
      rcases List.mem_cons.mp he with rfl | he
      · exact X.hk
      · exact X.up.2 env he⟩, X.T, Around.frames_deeper X.hA, rfl, hk, X.hh, by have := X.room; show A.depth + 1 + dep < _; (first | lia | omega), by have := X.units; show A.units + 3 + _ + _ < _; (first | lia | omega)⟩
  refine wpAny_mono (h _ h₁ tk cells L1 Y FX) (fun fl s' hl => ?_) fun _ _ y => y
  obtain ⟨m', fx', fix', fz', GL, k⟩ := hl
  exact k (G.exit GL)
/-- what a body's end must show -/
noncomputable def flv : Flow → Value
  | .ret v => v
  | _ => .none
noncomputable def Back (h₀ : Heap) (L K : Stk) (m : Str → Option Value) (s s₁ : Shared) (R : Result → Shared → Prop) (Q : Flow → Shared → Prop) : Prop :=
  ∀ fl h' tk' m' fx' fix' fz', Lg h₀ K m' (fx' ++ fix') fz' h' → (Lg h₀ L m fix' fz' h' → R (.ok (.ret (flv fl))) { s with heap := h', toks := tk' }) → Q fl { s₁ with heap := h', toks := tk' }
theorem my_call2 (X : Fx p loose mean mg mb A₀ A base h₀ outer fenv L (dep + 1)) (G : Lg h₀ L m fix fz s.heap) (ho : s.heap.get? f = some fo) (hd : fo.data = .func (docDef name params body scope pm cdv doc)) (hcd : s.heap.CodeRec cdv name)
    (hbind : BindsTo s (docDef name params body scope pm cdv doc) args binds)
    (hkind : ∀ n, ∀ x ∈ binds, scope.names.lookup x.1 = some .local ∨ (scope.names.lookup x.1 = some .cell ∧ ((cellsFrom n scope.names []).lookup x.1).isSome = true))
    (hnd : ((cellsFrom 0 scope.names []).map (·.1)).Nodup)
    (h : ∀ (A' : Around) (outer' : List Env) (K : Stk) (m₁ : Str → Option Value) (cells : Led) (s₁ : Shared) (Q : Flow → Shared → Prop) (E : Value → Shared → Prop),
      Fx p loose mean mg mb A A' base h₀ outer' (envOfC name scope K.a f cdv) K dep → Lg h₀ K m₁ (cells ++ fix) fz s₁.heap → m₁ = bindL (envOfC name scope K.a f cdv).kindOf binds (fun _ => none) → CellsAre (bindC (envOfC name scope K.a f cdv).kindOf binds fun _ => none) (cellsFrom (K.a + 1) scope.names []) cells →
      Back h₀ L K m s s₁ R Q → wpAny (model prog w) A' (execs body (envOfC name scope K.a f cdv)) Q E s₁)
    (hco : scope.isCoroutine = false) (hgen : scope.isGenerator = false) (hk : scope.kind = .function) : codeAny (model prog w) A (.call (.ref f) args) R s :=
  my_call X G ho hd hcd hbind hkind hnd (fun L' h₁ tk cells LG Y FX => h _ _ ⟨L', (L.a, m) :: L.up⟩ _ cells _ _ _ FX LG rfl Y fun fl h' tk' m' fx' fix' fz' GL k => ⟨m', fx', fix', fz', GL, by cases fl <;> exact k⟩) hco hgen hk
end
end
section -- MU
theorem cells_als {h₀ : Heap} {fz : Led} {env : Env} {m cm : Str → Option Value} {F : Str → Option D} {cs : List (Str × Addr)} {cells : Led} (Y : CellsAre cm cs cells)
    (h : ∀ q ∈ cs, (q.1 == ("__debug__" : Str)) = false ∧ env.kindOf q.1 = some .cell ∧ env.cells.lookup q.1 = some q.2 ∧ ∀ d', F q.1 = some d' → ∃ v, cm q.1 = some v ∧ Rep h₀ fz v d') :
    Als h₀ fz env m (cs.map fun q => (q.1, Slot.cel (F q.1))) cells := by
  induction Y with
  | nil => exact .nil
  | @cons n c o cs cells hd _ ih =>
    obtain ⟨a, b, e, k⟩ := h (n, c) List.mem_cons_self
    exact Als.cons (l := [(c, o)]) a ⟨b, c, o, _, rfl, e, hd, k⟩ (ih fun q hq => h q (List.mem_cons_of_mem _ hq))
theorem locals_als {h₀ : Heap} {fz : Led} {env : Env} {m : Str → Option Value} {F : Str → Option D} : ∀ {ks : List Str},
    (∀ n ∈ ks, (n == ("__debug__" : Str)) = false ∧ env.kindOf n = some .local ∧ ∀ d', F n = some d' → ∃ v, m n = some v ∧ Rep h₀ fz v d') →
    Als h₀ fz env m (ks.map fun n => (n, match F n with
      | some d => .val d
      | none => .unset)) []
  | [], _ => .nil
  | n :: ks, h => by
    obtain ⟨a, b, k⟩ := h n List.mem_cons_self
    refine Als.cons (l := []) a ?_ (locals_als fun q hq => h q (List.mem_cons_of_mem _ hq))
    cases hF : F n with
    | none => exact ⟨rfl, b⟩
    | some d => exact ⟨rfl, b, k d hF⟩

section
variable {prog : Program} {w : World} {p : Program} {loose : Heap → Prop} {mean : ExcName → Option Value} {mg mb : Str → Option Value} {dep : Nat} {Φ : Phi} {Ψ : Psi}

theorem al0 {g : Heap} {name : Str} {sc : Scope} {L' f : Addr} {cdv : Value} {xs : List Str} {vs : List Value} {ds : List D} {cells fz : Led} (hok : fnOk sc xs = true) (hl : vs.length = xs.length)
    (Y : CellsAre (bindC (envOfC name sc L' f cdv).kindOf (xs.zip vs) fun _ => none) (cellsFrom (L' + 1) sc.names []) cells) (hr : Reps g fz vs ds) :
    Al g fz (envOfC name sc L' f cdv) (bindL (envOfC name sc L' f cdv).kindOf (xs.zip vs) fun _ => none) (rho0 sc xs ds) cells := by
  unfold fnOk at hok
  simp only [Bool.and_eq_true, decide_eq_true_eq] at hok
  obtain ⟨⟨⟨⟨⟨⟨⟨⟨⟨k1, k2⟩, k3⟩, k4⟩, k5⟩, k6⟩, k7⟩, k8⟩, k9⟩, k10⟩ := hok
  have zn : ((xs.zip vs).map (·.1)).Nodup := by
    rw [List.map_fst_zip (by (first | lia | omega))]; exact k5
  have nm : (cellsFrom (L' + 1) sc.names []).map (·.1) = cellKeys sc := (cellsFrom_names sc.names (L' + 1) 0 [] [] rfl)
  have kc : ∀ n ∈ cellKeys sc, (envOfC name sc L' f cdv).kindOf n = some .cell := fun n hn => show sc.names.lookup n = some .cell from eq_of_beq (List.all_eq_true.mp k2 n hn)
  have kl : ∀ n ∈ localKeys sc, (envOfC name sc L' f cdv).kindOf n = some .local := fun n hn => show sc.names.lookup n = some .local from eq_of_beq (List.all_eq_true.mp k3 n hn)
  have kd : ∀ n ∈ cellKeys sc ++ localKeys sc, (n == ("__debug__" : Str)) = false := fun n hn => by simpa using List.all_eq_true.mp k4 n hn
  refine ⟨?_, ?_⟩
  · unfold rho0
    rw [List.map_append, List.map_map, List.map_map]
    simpa [Function.comp_def] using k1
  · unfold rho0
    have ec : ((cellKeys sc).map fun n => (n, Slot.cel ((xs.zip ds).lookup n))) = (cellsFrom (L' + 1) sc.names []).map fun q => (q.1, Slot.cel ((xs.zip ds).lookup q.1)) := by
      rw [← nm, List.map_map]; rfl
    rw [ec, show cells = cells ++ [] from (List.append_nil _).symm]
    have hmem : ∀ q ∈ cellsFrom (L' + 1) sc.names [], q.1 ∈ cellKeys sc := fun q hq => nm ▸ List.mem_map_of_mem hq
    refine (cells_als (F := fun n => (xs.zip ds).lookup n) Y fun q hq => ⟨kd _ (List.mem_append_left _ (hmem q hq)), kc _ (hmem q hq), ?_, fun d' hd => ?_⟩).append (locals_als fun n hn => ⟨kd _ (List.mem_append_right _ hn), kl n hn, fun d' hd => ?_⟩)
    · exact lookup_of_mem_nodup (nm ▸ (List.nodup_append.mp k1).1) hq
    · obtain ⟨v, hv, r⟩ := zip_rep hr hd
      refine ⟨v, ?_, r⟩
      rw [bindC_at _ _ _ _ zn (by rw [kc _ (hmem q hq)]; decide), hv]
    · obtain ⟨v, hv, r⟩ := zip_rep hr hd
      refine ⟨v, ?_, r⟩
      rw [bindL_at _ _ _ _ zn (kl n hn), hv]

theorem envOfC_ok {name : Str} {sc : Scope} {L' f : Addr} {cdv : Value} {up : List (Addr × (Str → Option Value))} (hk : sc.kind = .function) : FE (envOfC name sc L' f cdv) ⟨L', up⟩ :=
  ⟨⟨rfl, rfl, hk, fun x hx => cellsFrom_some _ _ _ (.inl hx)⟩, rfl⟩

/-- a call of a def of the top: its body, with everything about it unnamed -/
theorem enter {A₀ A : Around} {base h₀ : Heap} {outer : List Env} {fenv : Env} {L : Stk} {m : Str → Option Value} {fix fz : Led} {s : Shared} {vs : List Value} {Q₀ E₀ : Value → Shared → Prop} {f : Addr} {fo : Obj} {name : Str} {params : Arguments} {body : List Stmt} {scope : Scope} {pm : Value} {cdv doc : Value}
    (X : Fx p loose mean mg mb A₀ A base h₀ outer fenv L (dep + 1)) (G : Lg h₀ L m fix fz s.heap) (ho : h₀.get? f = some fo) (hd : fo.data = .func (docDef name params body scope pm cdv doc)) (hcd : h₀.CodeRec cdv name)
    {xs : List Str} {ds : List D} (hok : fnOk scope xs = true) (hb : ∀ pm code doc vs, vs.length = xs.length → bindArgs (docDef name params body scope pm code doc) ⟨vs, []⟩ = pure (xs.zip vs)) (hlen : ds.length = xs.length) (hrs : Reps h₀ fz vs ds)
    (h : ∀ (A' : Around) (outer' : List Env) (K : Stk) (m₁ : Str → Option Value) (cells : Led) (s₁ : Shared) (Q : Flow → Shared → Prop) (E : Value → Shared → Prop),
      Fx p loose mean mg mb A A' base h₀ outer' (envOfC name scope K.a f cdv) K dep → FE (envOfC name scope K.a f cdv) K → Lg h₀ K m₁ (cells ++ fix) fz s₁.heap → Al h₀ fz (envOfC name scope K.a f cdv) m₁ (rho0 scope xs ds) cells →
      (∀ fl h' tk' m' fx' fix' fz', Lg h₀ K m' (fx' ++ fix') fz' h' → (Lg h₀ L m fix' fz' h' → Q₀ (flv fl) { s with heap := h', toks := tk' }) → Q fl { s₁ with heap := h', toks := tk' }) → wpAny (model prog w) A' (execs body (envOfC name scope K.a f cdv)) Q E s₁) :
    wpAny (model prog w) A (call (.ref f) vs) Q₀ E₀ s := by
  have hvl : vs.length = xs.length := by rw [hrs.length, hlen]
  have hok' := hok
  unfold fnOk at hok'
  simp only [Bool.and_eq_true, decide_eq_true_eq] at hok'
  obtain ⟨⟨⟨⟨⟨⟨⟨⟨⟨k1, k2⟩, k3⟩, k4⟩, k5⟩, k6⟩, k7⟩, k8⟩, k9⟩, k10⟩ := hok'
  have hk : scope.kind = .function := eq_of_beq k7
  refine wpAny_call (my_call2 X G (G.F.keep _ _ ho) hd (hcd.keeps G.F.keep) (BindsTo.of_eq (hb pm cdv doc vs hvl)) (kindsX ?_) (List.nodup_append.mp k1).1 (fun A' outer' K m₁ cells s₁ Q E FX LG hm Y B => ?_) (by simpa using k8) (by simpa using k9) hk)
  · rw [List.all_eq_true]
    rintro ⟨y, v⟩ hy
    exact List.all_eq_true.mp k6 y (List.of_mem_zip hy).1
  · subst hm
    exact h A' outer' K _ cells s₁ Q E FX (envOfC_ok hk) LG (al0 hok hvl Y hrs) B

theorem fn_sound (Γ : Gx prog w p loose mean mg mb Φ dep) (ΓO : GxO prog w p loose mean mg mb Ψ dep) {r : DefRec} (hr : r ∈ recsOf p) (xs : List Str) {ds : List D} {ρ' : Rho} {d : D} (hok : fnOk r.scope xs = true)
    (hb : ∀ pm code doc vs, vs.length = xs.length → bindArgs (docDef r.name r.params r.body r.scope pm code doc) ⟨vs, []⟩ = pure (xs.zip vs)) (hlen : ds.length = xs.length)
    (run : Run Φ Ψ r.scope.names (.B r.body) (rho0 r.scope xs ds) ρ' (.ret d)) : ∀ fv, mg r.name = some fv → CallOk prog w p loose mean mg mb (dep + 1) fv ds d := by
  intro fv hfv A₀ A base h₀ outer fenv L m fix fz s vs Q E X G hrs P
  obtain ⟨a, o, pm, code, doc, hmg, hob, hfd, hcd⟩ := X.T.fn r hr
  rw [hmg] at hfv
  cases hfv
  refine enter X G hob hfd hcd hok hb hlen hrs fun A' outer' K m₁ cells s₁ Q' E' FX FE' LG H0 B => ?_
  refine run_sound FX Γ ΓO FE' run _ cells fix fz _ _ _ H0 LG ?_
  intro v h' tk' m' fx' add G' ho r'
  refine B _ h' tk' m' fx' fix (add ++ fz) G' fun LGc => ?_
  refine P v h' tk' add LGc (fun q hq r hr => ?_) r'
  rcases List.mem_append.mp hr with hr | hr
  · exact (G'.dj r (List.mem_append_right _ hr) q (List.mem_append_left _ hq)).symm
  · exact ho q hq r hr
/-- some statements by their runs, the rest by hand -/
noncomputable def Steps (Φ : Phi) (Ψ : Psi) (nm : Names) : List Stmt → Rho → Rho → Prop
  | [], ρ, ρ' => ρ = ρ'
  | s :: r, ρ, ρ' => ∃ ρ₁, Run Φ Ψ nm (.S s) ρ ρ₁ .next ∧ Steps Φ Ψ nm r ρ₁ ρ'
theorem run_then {A₀ A : Around} {base h₀ : Heap} {outer : List Env} {env : Env} {L : Stk} {ext : Led} {E : Value → Shared → Prop} {Q : Flow → Shared → Prop} {ρ' : Rho} {b : List Stmt}
    (X : Fx p loose mean mg mb A₀ A base h₀ outer env L dep) (Γ : Gx prog w p loose mean mg mb Φ dep) (ΓO : GxO prog w p loose mean mg mb Ψ dep) (FX : FE env L) : ∀ {a : List Stmt} {ρ : Rho} {m : Str → Option Value} {fx fz : Led} {s : Shared}, Steps Φ Ψ env.scope.names a ρ ρ' → Al h₀ fz env m ρ fx → Lg h₀ L m (fx ++ ext) fz s.heap →
    (∀ h1 tk1 m1 fx1 add1, Lg h₀ L m1 (fx1 ++ ext) (add1 ++ fz) h1 → Off add1 fz → Al h₀ (add1 ++ fz) env m1 ρ' fx1 → wpAny (model prog w) A (execs b env) Q E { s with heap := h1, toks := tk1 }) →
    wpAny (model prog w) A (execs (a ++ b) env) Q E s := by
  intro a
  induction a with
  | nil =>
    intro ρ m fx fz s st H G K
    cases st
    exact K s.heap s.toks m fx [] G Off.nil H
  | cons x a ih =>
    intro ρ m fx fz s st H G K
    obtain ⟨ρ₁, h1, h2⟩ := st
    refine wpAny_execs_cons (run_sound X Γ ΓO FX h1 m fx ext fz s E _ H G fun h' tk' m' fx' add G' ho H' => ?_)
    refine ih h2 H' G' fun h2 tk2 m2 fx2 add2 G2 ho2 H2 => ?_
    rw [← List.append_assoc] at G2 H2
    exact K h2 tk2 m2 fx2 _ G2 (Off.append (ho2.sub fun q hq => List.mem_append_right _ hq) ho) H2
end
end
section -- MV
theorem ofString_inj {a b : String} (h : Str.ofString a = Str.ofString b) : a = b := by
  rw [Str.ofString_eq_toList, Str.ofString_eq_toList] at h
  have h1 : a.toList.map Char.toNat = b.toList.map Char.toNat := by
    have := congrArg (fun s : Str => s.cps.toList) h
    simpa using this
  have inj : Function.Injective Char.toNat := fun x y e => Char.ext (UInt32.toNat_inj.mp e)
  exact String.toList_inj.mp (List.map_inj_right (fun x y e => inj e) |>.mp h1)
theorem ofString_beq (a b : String) : (Str.ofString a == Str.ofString b) = decide (a = b) := by
  by_cases h : a = b
  · subst h; simp
  · have : Str.ofString a ≠ Str.ofString b := fun e => h (ofString_inj e)
    rw [decide_eq_false h]
    simpa using this
theorem ofString_eq (a b : String) : (Str.ofString a = Str.ofString b) = (a = b) := propext ⟨ofString_inj, fun h => h ▸ rfl⟩

theorem atom_none : atom .none = true := rfl
theorem atom_bool (b : Bool) : atom (.bool b) = true := rfl
theorem atom_int (i : Int) : atom (.int i) = true := rfl
theorem atom_tup (l : List D) : atom (.tup l) = false := rfl
theorem atom_lst (l : List D) : atom (.lst l) = false := rfl
theorem allAtom_nil : allAtom [] = true := rfl
theorem allAtom_cons (d : D) (l : List D) : allAtom (d :: l) = (atom d && allAtom l) := rfl
theorem allAtom_append (a b : List D) : allAtom (a ++ b) = (allAtom a && allAtom b) := by simp [allAtom]
theorem allAtom_ints (l : List Int) : allAtom (l.map .int) = true := by simp [allAtom, atom]
theorem run_append {Φ : Phi} {Ψ : Psi} {nm : Names} {b : List Stmt} {ρ₂ : Rho} {f : Flw} {t : Tsk} {ρ ρ₁ : Rho} {g : Flw} (h1 : Run Φ Ψ nm t ρ ρ₁ g) :
    ∀ {a : List Stmt}, t = .B a → g = .next → Run Φ Ψ nm (.B b) ρ₁ ρ₂ f → Run Φ Ψ nm (.B (a ++ b)) ρ ρ₂ f := by
  induction h1 with
  | nil => intro a ha _ h2; cases ha; exact h2
  | cons x _ _ ih => intro a ha hg h2; cases ha; exact .cons x (ih rfl hg h2)
  | stop x h => intro a ha hg h2; exact absurd hg h
  | frz _ ih => intro a ha hg h2; cases ha; exact .frz (ih rfl hg h2)
  | _ => intro a ha; cases ha
theorem run_split {Φ : Phi} {Ψ : Psi} {nm : Names} (k : Nat) {l : List Stmt} {ρ ρ₁ ρ₂ : Rho} {f : Flw} (h1 : Run Φ Ψ nm (.B (l.take k)) ρ ρ₁ .next) (h2 : Run Φ Ψ nm (.B (l.drop k)) ρ₁ ρ₂ f) : Run Φ Ψ nm (.B l) ρ ρ₂ f := by
  have := run_append h1 rfl rfl h2
  rwa [List.take_append_drop] at this
end
section -- MW
section
variable {prog : Program} {w : World} {A : Around} {h₀ : Heap} {L : Stk} {p : Program} {loose : Heap → Prop} {mean : ExcName → Option Value} {mg mb : Str → Option Value} {A₀ : Around} {base : Heap} {outer : List Env} {fenv : Env} {dep : Nat}
variable {s : Shared} {m : Str → Option Value} {fix fz : Led} {R : Result → Shared → Prop} {name qual : Str} {params : Arguments} {body : List Stmt} {scope : Scope} {dV kV doc pm cdv ct : Value} {an : Option Addr} {cl : List (Str × Addr)} {fo : Obj} {f : Addr} {args : Args} {binds : List (Str × Value)}

/-- a call of a function that has cells of its maker, and none of its own -/
theorem my_callF (X : Fx p loose mean mg mb A₀ A base h₀ outer fenv L (dep + 1)) (G : Lg h₀ L m fix fz s.heap) (ho : s.heap.get? f = some fo) (hd : fo.data = .func (fnX name qual params body scope cl dV kV doc pm an cdv ct)) (hcd : s.heap.CodeRec cdv qual)
    (hbind : BindsTo s (fnX name qual params body scope cl dV kV doc pm an cdv ct) args binds) (hloc : ∀ y ∈ binds, scope.names.lookup y.1 = some .local)
    (h : ∀ L' h₁, Lg h₀ ⟨L', (L.a, m) :: L.up⟩ (fun y => binds.reverse.lookup y) fix fz h₁ → Fx p loose mean mg mb A (A.deeper (envX qual scope L' f cdv cl)) base h₀ (fenv :: outer) (envX qual scope L' f cdv cl) ⟨L', (L.a, m) :: L.up⟩ dep →
      wpAny (model prog w) (A.deeper (envX qual scope L' f cdv cl)) (execs body (envX qual scope L' f cdv cl))
        (fun fl s' => ∃ m' fx' fix' fz', Lg h₀ ⟨L', (L.a, m) :: L.up⟩ m' (fx' ++ fix') fz' s'.heap ∧ (Lg h₀ L m fix' fz' s'.heap → R (.ok (.ret (match fl with | .ret v => v | _ => .none))) s'))
        (fun e s' => wpAny (model prog w) (A.deeper (envX qual scope L' f cdv cl)) (leaving (envX qual scope L' f cdv cl) e) (fun _ s'' => R (.error e) s'') (fun e' s'' => R (.error e') s'') s') { s with heap := h₁, toks := s.toks + binds.length })
    (hcell : ∀ x ∈ scope.names, x.2 ≠ .cell) (hco : scope.isCoroutine = false := by rfl) (hgen : scope.isGenerator = false := by rfl) (hk : scope.kind = .function := by rfl) : codeAny (model prog w) A (.call (.ref f) args) R s := by
  refine codeAny_call_def (fd := fnX name qual params body scope cl dV kV doc pm an cdv ct) (body := body) (binds := binds) (Nat.lt_of_le_of_lt (Nat.le_add_right _ _) X.room) ho hd (X.T.nolimit.keeps G.F.keep) hcd rfl hbind hcell hloc (fun h₁ hns hk₁ => ?_) hco hgen hk
  have L1 := G.enter (cells := []) hk₁ hns (fun q hq => nomatch hq) (fun q hq => nomatch hq) List.nodup_nil
  rw [List.nil_append] at L1
  have FX : Fx p loose mean mg mb A (A.deeper (envX qual scope s.heap.objs.size f cdv cl)) base h₀ (fenv :: outer) (envX qual scope s.heap.objs.size f cdv cl) ⟨s.heap.objs.size, (L.a, m) :: L.up⟩ dep :=
    ⟨⟨by rw [List.map_cons, List.map_cons, X.up.1, X.hf], fun env he => by
      rcases List.mem_cons.mp he with rfl | he
      · exact X.hk
      · exact X.up.2 env he⟩, X.T, Around.frames_deeper X.hA, rfl, hk, X.hh, by have := X.room; show A.depth + 1 + dep < _; (first | lia | omega), by have := X.units; show A.units + 3 + _ + _ < _; (first | lia | omega)⟩
  refine wpAny_mono (h _ h₁ L1 FX) (fun fl s' hl => ?_) fun _ _ y => y
  obtain ⟨m', fx', fix', fz', GL, k⟩ := hl
  exact k (G.exit GL)

theorem my_callF2 (X : Fx p loose mean mg mb A₀ A base h₀ outer fenv L (dep + 1)) (G : Lg h₀ L m fix fz s.heap) (ho : s.heap.get? f = some fo) (hd : fo.data = .func (fnX name qual params body scope cl dV kV doc pm an cdv ct)) (hcd : s.heap.CodeRec cdv qual)
    (hbind : BindsTo s (fnX name qual params body scope cl dV kV doc pm an cdv ct) args binds) (hloc : ∀ y ∈ binds, scope.names.lookup y.1 = some .local)
    (h : ∀ (A' : Around) (outer' : List Env) (K : Stk) (m₁ : Str → Option Value) (s₁ : Shared) (Q : Flow → Shared → Prop) (E : Value → Shared → Prop),
      Fx p loose mean mg mb A A' base h₀ outer' (envX qual scope K.a f cdv cl) K dep → Lg h₀ K m₁ fix fz s₁.heap → m₁ = (fun y => binds.reverse.lookup y) →
      Back h₀ L K m s s₁ R Q → wpAny (model prog w) A' (execs body (envX qual scope K.a f cdv cl)) Q E s₁)
    (hcell : ∀ x ∈ scope.names, x.2 ≠ .cell) (hco : scope.isCoroutine = false := by rfl) (hgen : scope.isGenerator = false := by rfl) (hk : scope.kind = .function := by rfl) : codeAny (model prog w) A (.call (.ref f) args) R s :=
  my_callF X G ho hd hcd hbind hloc (fun L' h₁ LG FX => h _ _ ⟨L', (L.a, m) :: L.up⟩ _ _ _ _ FX LG rfl fun fl h' tk' m' fx' fix' fz' GL k => ⟨m', fx', fix', fz', GL, by cases fl <;> exact k⟩) hcell hco hgen hk

theorem Fx.mono {d' : Nat} (X : Fx p loose mean mg mb A₀ A base h₀ outer fenv L dep) (h : d' ≤ dep) : Fx p loose mean mg mb A₀ A base h₀ outer fenv L d' :=
  ⟨X.up, X.T, X.hA, X.hf, X.hk, X.hh, by have := X.room; (first | lia | omega), by have := X.units; (first | lia | omega)⟩
theorem CallOk.mono {d d' : Nat} {fv : Value} {args : List D} {r : D} (h : d ≤ d') (c : CallOk prog w p loose mean mg mb d fv args r) : CallOk prog w p loose mean mg mb d' fv args r :=
  fun A₀ A base h₀ outer fenv L m fix fz s vs Q E X => c A₀ A base h₀ outer fenv L m fix fz s vs Q E (X.mono h)
theorem CallOwn.mono {d d' : Nat} {fv : Value} {args l : List D} (h : d ≤ d') (c : CallOwn prog w p loose mean mg mb d fv args l) : CallOwn prog w p loose mean mg mb d' fv args l :=
  fun A₀ A base h₀ outer fenv L m fix fz s vs Q E X => c A₀ A base h₀ outer fenv L m fix fz s vs Q E (X.mono h)
/-- a list of one's own may be frozen -/
theorem CallOwn.ok {d : Nat} {fv : Value} {args l : List D} (c : CallOwn prog w p loose mean mg mb d fv args l) : CallOk prog w p loose mean mg mb d fv args (.lst l) := by
  intro A₀ A base h₀ outer fenv L m fix fz s vs Q E X G hr P
  refine c A₀ A base h₀ outer fenv L m fix fz s vs Q E X G hr fun a ys n h' tk' add G' ho hz hrep => ?_
  have hoff : Off [(a, lo ys n)] (fix ++ (add ++ fz)) := fun p hp q hq => by
    rw [List.mem_singleton.mp hp]
    obtain ⟨_, k2, k3⟩ := Lg.ne_fix (p1 := []) G'
    rcases List.mem_append.mp hq with hq | hq
    · exact (k2 q hq).symm
    · exact (k3 q hq).symm
  refine P (.ref a) h' tk' ((a, lo ys n) :: add) G'.freeze (Off.append (a := [(a, lo ys n)]) (hoff.sub fun p hp => ?_) ho) (.lst (.inr List.mem_cons_self) rfl rfl (by rw [List.size_toArray]; exact hz) (hrep.sub fun p hp => List.mem_cons_of_mem _ hp))
  rcases List.mem_append.mp hp with h | h
  · exact List.mem_append_left _ h
  · exact List.mem_append_right _ (List.mem_append_right _ h)
end

section
variable {prog : Program} {w : World} {p : Program} {loose : Heap → Prop} {mean : ExcName → Option Value} {mg mb : Str → Option Value} {Φ : Phi} {Ψ : Psi}
theorem Gx.mono' {d d' : Nat} (G : Gx prog w p loose mean mg mb Φ d) (h : d ≤ d') : Gx prog w p loose mean mg mb Φ d' :=
  ⟨fun g ds r e => let ⟨a, x, b, c, k⟩ := G.phi g ds r e; ⟨a, x, b, c, fun fv hv => (k fv hv).mono h⟩, G.nob, G.cst⟩
theorem GxO.mono' {d d' : Nat} (G : GxO prog w p loose mean mg mb Ψ d) (h : d ≤ d') : GxO prog w p loose mean mg mb Ψ d' :=
  ⟨fun g ds r e => let ⟨a, x, b, c, k⟩ := G.psi g ds r e; ⟨a, x, b, c, fun fv hv => (k fv hv).mono h⟩⟩
end

/-! ## the program's tree -/
noncomputable def fnIx (p : Program) (i : Nat) : DefRec :=
  match p.main.body[i]? with
  | some (.FunctionDef n a b _ _ _ sc _ _ ps) => ⟨n, a, b, sc, ps⟩
  | _ => ⟨Str.ofString "", ⟨[], [], none, [], [], none, []⟩, [], { kind := .function, names := [], isGenerator := false, isCoroutine := false }, ⟨0, 0, 0, 0⟩⟩
noncomputable def stAt (b : List Stmt) (i : Nat) : Stmt := match b[i]? with
  | some s => s
  | none => .Pass ⟨0, 0, 0, 0⟩
/-- a nested def -/
noncomputable def nestAt (b : List Stmt) (i : Nat) : DefRec := match b[i]? with
  | some (.FunctionDef n a b _ _ _ sc _ _ ps) => ⟨n, a, b, sc, ps⟩
  | _ => ⟨Str.ofString "", ⟨[], [], none, [], [], none, []⟩, [], { kind := .function, names := [], isGenerator := false, isCoroutine := false }, ⟨0, 0, 0, 0⟩⟩
noncomputable def whT : Stmt → Expr
  | .While t _ _ _ => t
  | _ => .Constant .none 0 ⟨0, 0, 0, 0⟩
noncomputable def bodyOf : Stmt → List Stmt
  | .While _ b _ _ => b
  | .For _ _ b _ _ => b
  | .If _ b _ _ => b
  | _ => []
noncomputable def forT : Stmt → Expr
  | .For t _ _ _ _ => t
  | _ => .Constant .none 0 ⟨0, 0, 0, 0⟩
noncomputable def forI : Stmt → Expr
  | .For _ i _ _ _ => i
  | _ => .Constant .none 0 ⟨0, 0, 0, 0⟩
noncomputable def zl (l : List Int) : D := .lst (l.map .int)
end
section -- MX
theorem updF_of {d : Addr} {o : Obj} : ∀ {pre post : Led}, (∀ p ∈ pre, p.1 ≠ d) → (∀ p ∈ post, p.1 ≠ d) → UpdF d o (pre ++ (d, o) :: post) (fun o' => pre ++ (d, o') :: post)
  | [], _, _, h2 => .head h2
  | p :: pre, post, h1, h2 => .tail (h1 p List.mem_cons_self) (updF_of (fun q hq => h1 q (List.mem_cons_of_mem _ hq)) h2)

theorem triples_snoc {a b : Int} {c : Value} (l : List Value) (h : TriplesOk l) : TriplesOk (l ++ [rawInt a, rawInt b, c]) := by
  fun_induction TriplesOk l with
  | case1 => simp [TriplesOk, rawInt]
  | case2 x t y u z rest ih => exact ih h
  | case3 => cases h
theorem among_snoc {pos : Pos} {a b : Int} {c v : Value} (l : List Value) (h : TriplesOk l) (hv : codeAmong pos (l ++ [rawInt a, rawInt b, c]) = some v) : codeAmong pos l = some v ∨ v = c := by
  fun_induction TriplesOk l with
  | case1 =>
    simp only [List.nil_append, rawInt, codeAmong] at hv
    split at hv
    · cases hv; exact .inr rfl
    · cases hv
  | case2 x t y u z rest ih =>
    simp only [List.cons_append, codeAmong] at hv ⊢
    split at hv
    · rename_i hc; rw [if_pos hc]; exact .inl hv
    · rename_i hc; rw [if_neg hc]; exact ih h hv
  | case3 => cases h

theorem tabs_uniq : ∀ {t t' : Addr × Str}, t ∈ tabs → t' ∈ tabs → t.1 = t'.1 → t = t' := by
  intro t t' h h' e
  simp only [tabs, List.mem_cons, List.not_mem_nil, or_false] at h h'
  rcases h with rfl | rfl <;> rcases h' with rfl | rfl <;> first | rfl | (exact absurd e (by decide))

section
variable {M : Model} {A : Around} {E : Value → Shared → Prop} {s : Shared} {h₀ : Heap} {L : Stk} {m mg mb : Str → Option Value} {fix fz : Led}

/-- a nested def is made -/
theorem nest_make {p : Program} {loose : List Str} {mean : ExcName → Option Value} {cn : Str} {cs : Scope} {a c P : Addr} {cl clos : List (Str × Addr)} {name qual : Str} {params : Arguments} {body : List Stmt} {scope : Scope} {pos : Pos} {fl : Nat} {Q : Value → Shared → Prop}
    (G : Lg h₀ L m fix fz s.heap) (T : Top p loose mean mg mb h₀) (hT : (P, qual) ∈ tabs) (C : CodeHd h₀ c P) (hcl : closureFor scope (envX cn cs L.a a (.ref c) cl) = pure clos)
    (h : ∀ f c' ct doc pm h' tk add oc vs t, Lg h₀ L m fix (add ++ fz) h' → Off add (fix ++ fz) → (f, fnMade name qual params body scope clos doc pm c' ct) ∈ add → (c', oc) ∈ add ++ fz → oc.data = .fields vs → vs[1]? = some (.str qual t) → Q (.ref f) { s with heap := h', toks := tk }) :
    wpAny M A (makeFunction name qual params (.stmts body) scope (envX cn cs L.a a (.ref c) cl) [] [] [] pos fl) Q E s := by
  obtain ⟨hd, G0, TT⟩ := id G
  obtain ⟨ps, hps, htr, hco⟩ := TT.1 _ hT
  cases hcode : codeAmong pos ps.toList with
  | some v =>
    obtain ⟨c', oc, vs, tk, rfl, hoc, hvd, hvs⟩ := hco pos v hcode
    refine nestHit_K G0.F G0.N T C rfl (List.mem_append_left _ (List.mem_append_right _ hps)) htr hcode hcl fun f ct doc h' tk' F' N' hlt => ?_
    have hoff : Off [(f, fnMade name qual params body scope clos doc ((mg "__name__").getD .none) c' ct)] ((fix ++ hd) ++ fz) := fun q hq r hr => by
      rw [List.mem_singleton.mp hq]; exact Nat.ne_of_gt (hlt r hr)
    refine h f c' ct doc _ h' tk' [(f, _)] oc vs tk ⟨hd, ⟨F', fun q hq => N' q ?_, G0.nd, fun q hq r hr => ?_⟩, TT.sub fun q hq => List.mem_cons_of_mem _ hq⟩ (hoff.sub fun q hq => ?_) List.mem_cons_self (List.mem_cons_of_mem _ hoc) hvd hvs
    · rcases List.mem_append.mp hq with hq | hq
      · exact List.mem_cons_of_mem _ (List.mem_append_left _ hq)
      · rcases List.mem_cons.mp hq with rfl | hq
        · exact List.mem_cons_self
        · exact List.mem_cons_of_mem _ (List.mem_append_right _ hq)
    · rcases List.mem_cons.mp hr with rfl | hr
      · exact (hoff _ List.mem_cons_self q (List.mem_append_left _ hq)).symm
      · exact G0.dj q hq r hr
    · rcases List.mem_append.mp hq with hq | hq
      · exact List.mem_append_left _ (List.mem_append_left _ hq)
      · exact List.mem_append_right _ hq
  | none =>
    obtain ⟨d1, d2, rfl⟩ := List.append_of_mem hps
    have e1 : (fix ++ (d1 ++ (P, tabObj ps) :: d2)) ++ fz = (fix ++ d1) ++ (P, tabObj ps) :: (d2 ++ fz) := by simp
    have N0 := G0.N
    rw [e1] at N0
    have e0 : fix ++ (d1 ++ (P, tabObj ps) :: d2) = (fix ++ d1) ++ (P, tabObj ps) :: d2 := by simp
    obtain ⟨n1, n2, n3⟩ := (e0 ▸ G0).ne_fix
    refine nest_K (s := s) G0.F N0 T C rfl (updF_of n1 fun q hq => (List.mem_append.mp hq).elim (n2 q) (n3 q)) htr hcode hcl fun f c' oc vs t ct doc h' tk' F' N' hvd hvs hlt hcf => ?_
    have low : ∀ q ∈ (fix ++ d1) ++ (P, tabObj ps) :: (d2 ++ fz), q.1 ≠ c' ∧ q.1 ≠ f := fun q hq => ⟨Nat.ne_of_lt (hlt q hq), Nat.ne_of_lt (Nat.lt_trans (hlt q hq) hcf)⟩
    have lowf : ∀ q ∈ fix ++ fz, q.1 ≠ c' ∧ q.1 ≠ f := fun q hq => low q (by
      rcases List.mem_append.mp hq with hq | hq
      · simp [hq]
      · simp [hq])
    refine h f c' ct doc _ h' tk' [(f, fnMade name qual params body scope clos doc ((mg "__name__").getD .none) c' ct), (c', oc)] oc vs t ⟨d1 ++ (P, tabObj (ps ++ #[rawInt pos.line, rawInt pos.col, .ref c'])) :: d2, ⟨F', fun q hq => N' q ?_, ?_, fun q hq r hr => ?_⟩, fun tt htt => ?_, fun uu huu => ?_⟩
      (fun q hq r hr => ?_) List.mem_cons_self (List.mem_append_left _ (List.mem_cons_of_mem _ List.mem_cons_self)) hvd hvs
    · simp only [List.mem_append, List.mem_cons, List.not_mem_nil, or_false] at hq ⊢
      rcases hq with (hq | hq | hq | hq) | (hq | hq) | hq <;> simp [hq]
    · have := G0.nd
      simp only [List.map_append, List.map_cons] at this ⊢
      exact this
    · have hq' : ∃ q' ∈ fix ++ (d1 ++ (P, tabObj ps) :: d2), q'.1 = q.1 := by
        simp only [List.mem_append, List.mem_cons] at hq
        rcases hq with hq | hq | hq | hq
        · exact ⟨q, by simp [hq], rfl⟩
        · exact ⟨q, by simp [hq], rfl⟩
        · exact ⟨(P, tabObj ps), by simp, by rw [hq]⟩
        · exact ⟨q, by simp [hq], rfl⟩
      obtain ⟨q', hq', e⟩ := hq'
      have hq2 : q' ∈ (fix ++ d1) ++ (P, tabObj ps) :: (d2 ++ fz) := by rw [← e1]; exact List.mem_append_left _ hq'
      rw [← e]
      simp only [List.cons_append, List.nil_append, List.mem_cons] at hr
      rcases hr with rfl | rfl | hr
      · exact (low q' hq2).2
      · exact (low q' hq2).1
      · exact G0.dj q' hq' r hr
    · by_cases hP : tt.1 = P
      · have : tt = (P, qual) := tabs_uniq htt hT hP
        subst this
        refine ⟨_, List.mem_append_right _ List.mem_cons_self, by rw [Array.toList_append]; exact triples_snoc _ htr, fun pos' v hv => ?_⟩
        rw [Array.toList_append] at hv
        rcases among_snoc _ htr hv with hv | rfl
        · obtain ⟨c2, oc2, vs2, tk2, a, b, c, d⟩ := hco pos' v hv
          exact ⟨c2, oc2, vs2, tk2, a, List.mem_append_right _ b, c, d⟩
        · exact ⟨c', oc, vs, t, rfl, by simp, hvd, hvs⟩
      · obtain ⟨ps', h1, h2, h3⟩ := TT.1 tt htt
        refine ⟨ps', ?_, h2, fun pos' v hv => ?_⟩
        · simp only [List.mem_append, List.mem_cons] at h1 ⊢
          rcases h1 with h1 | h1 | h1
          · exact .inl h1
          · cases h1; exact absurd rfl hP
          · exact .inr (.inr h1)
        · obtain ⟨c2, oc2, vs2, tk2, a, b, c, d⟩ := h3 pos' v hv
          exact ⟨c2, oc2, vs2, tk2, a, List.mem_append_right _ b, c, d⟩
    · obtain ⟨ou, hou, hnu⟩ := TT.2 uu huu
      refine ⟨ou, ?_, hnu⟩
      simp only [List.mem_append, List.mem_cons] at hou ⊢
      rcases hou with h1 | h1 | h1
      · exact .inl h1
      · have : ou = tabObj ps := congrArg Prod.snd h1
        subst this
        obtain ⟨es, ep, hd, _⟩ := hnu
        cases hd
      · exact .inr (.inr h1)
    · simp only [List.mem_cons, List.not_mem_nil, or_false] at hq
      rcases hq with rfl | rfl
      · exact (lowf r hr).2.symm
      · exact (lowf r hr).1.symm
end
end
section -- MY
section
variable {prog : Program} {w : World} {A : Around} {E : Value → Shared → Prop} {s : Shared} {h₀ : Heap} {L : Stk} {m : Str → Option Value} {fix fz : Led} {p : Program} {loose : Heap → Prop} {mean : ExcName → Option Value} {mg mb : Str → Option Value} {A₀ : Around} {base : Heap} {outer : List Env} {fenv : Env} {dep : Nat}

noncomputable def frs (L : Stk) : List Addr := L.a :: L.up.map (·.1)

/-- what stays as it is while an exception flies: all but the frames' own notes -/
theorem Lg.fly {h h1 : Heap} {I e : Addr} {oI : Obj} (G : Lg h₀ L m ((I, oI) :: fix) fz h) (hk : ∀ b o, b ≠ I → h.get? b = some o → h1.get? b = some o) (he : h.get? e = none) :
    ∃ B : Heap, B.StaysIn h1 ∧ B.get? e = none ∧ (∀ b ∈ frs L, B.get? b = none ∧ ∃ o, h1.get? b = some o ∧ ∀ vs, o.data ≠ .fields vs) ∧
      ∀ h2, B.StaysIn h2 → h1.UpToSlots h2 → Lg h₀ L m fix fz h2 := by
  obtain ⟨hd, G0, TT, UU⟩ := G
  have N0 := G0.N
  have hIn : ∀ q ∈ (fix ++ hd) ++ fz, q.1 ≠ I := by
    obtain ⟨_, n2, n3⟩ := Lg0.ne_fix (p1 := []) G0
    intro q hq
    rcases List.mem_append.mp hq with hq | hq
    · exact n2 q hq
    · exact n3 q hq
  have ledger : ∀ q ∈ (fix ++ hd) ++ fz, h1.get? q.1 = some q.2 ∧ q.1 ≠ e := fun q hq => by
    have hm : q ∈ ((I, oI) :: fix ++ hd) ++ fz := by
      rcases List.mem_append.mp hq with hq | hq
      · exact List.mem_append_left _ (List.mem_cons_of_mem _ hq)
      · exact List.mem_append_right _ hq
    have := N0 q hm
    refine ⟨hk _ _ (hIn q hq) this.1, fun q' => ?_⟩
    rw [q', he] at this
    cases this.1
  have hI := N0 (I, oI) (List.mem_append_left _ List.mem_cons_self)
  obtain ⟨oL, hoL, hnL⟩ := LCg.ns_obj G0.F.ns
  have hLI : L.a ≠ I := hI.2.1.symm
  have hL1 : h1.get? L.a = some oL := hk _ _ hLI hoL
  have upObj : ∀ q ∈ L.up, ∃ o, (q.1, o) ∈ hd ∧ LCg.NsObj o q.2 ∧ h1.get? q.1 = some o := fun q hq => by
    obtain ⟨o, ho, hn⟩ := UU q hq
    exact ⟨o, ho, hn, (ledger (q.1, o) (List.mem_append_left _ (List.mem_append_right _ ho))).1⟩
  have dictNo : ∀ {o : Obj} {mm : Str → Option Value}, LCg.NsObj o mm → ∀ vs, o.data ≠ .fields vs := fun hn vs q => by
    obtain ⟨es, ep, hd, _⟩ := hn
    rw [hd] at q; cases q
  refine ⟨hideAll h1 (e :: frs L), fun b o q => of_hideAll _ q, hideAll_none _ List.mem_cons_self, fun b hb => ⟨hideAll_none _ (List.mem_cons_of_mem _ hb), ?_⟩, fun h2 hB hU => ?_⟩
  · rcases List.mem_cons.mp hb with rfl | hb
    · exact ⟨oL, hL1, dictNo hnL⟩
    · obtain ⟨q, hq, rfl⟩ := List.mem_map.mp hb
      obtain ⟨o, _, hn, ho⟩ := upObj q hq
      exact ⟨o, ho, dictNo hn⟩
  · -- the frames' new objects
    let nw : Addr × Obj → Addr × Obj := fun q => if q.1 ∈ L.up.map (·.1) then (q.1, (h2.get? q.1).getD q.2) else q
    have nw1 : ∀ q, (nw q).1 = q.1 := fun q => by show (if _ then _ else _ : Addr × Obj).1 = _; split <;> rfl
    have hdnd : (hd.map (·.1)).Nodup := by
      have := G0.nd
      rw [List.cons_append, List.map_cons, List.nodup_cons, List.map_append, List.nodup_append] at this
      exact this.2.2.1
    have offUp : ∀ q ∈ fix ++ fz, q.1 ∉ L.up.map (·.1) := fun q hq hm => by
      obtain ⟨u, hu, eu⟩ := List.mem_map.mp hm
      obtain ⟨o, ho, _, _⟩ := upObj u hu
      have nd := G0.nd
      rw [List.cons_append, List.map_cons, List.nodup_cons, List.map_append, List.nodup_append] at nd
      rcases List.mem_append.mp hq with hq | hq
      · exact nd.2.2.2 q.1 (List.mem_map_of_mem hq) u.1 (List.mem_map.mpr ⟨(u.1, o), ho, rfl⟩) eu.symm
      · exact G0.dj (u.1, o) (List.mem_cons_of_mem _ (List.mem_append_right _ ho)) q hq eu
    have stay : ∀ b o, h1.get? b = some o → b ≠ e → b ∉ frs L → h2.get? b = some o := fun b o q n1 n2 => hB b o (hideAll_get _ q fun hm => by
      rcases List.mem_cons.mp hm with h | h
      · exact n1 h
      · exact n2 h)
    have notL : ∀ q ∈ (fix ++ hd) ++ fz, q.1 ≠ L.a := fun q hq => (N0 q (by
      rcases List.mem_append.mp hq with hq | hq
      · exact List.mem_append_left _ (List.mem_cons_of_mem _ hq)
      · exact List.mem_append_right _ hq)).2.1
    have h0n : ∀ q ∈ (fix ++ hd) ++ fz, h₀.get? q.1 = none := fun q hq => (N0 q (by
      rcases List.mem_append.mp hq with hq | hq
      · exact List.mem_append_left _ (List.mem_cons_of_mem _ hq)
      · exact List.mem_append_right _ hq)).2.2
    have led2 : ∀ q ∈ (fix ++ hd) ++ fz, q.1 ∉ L.up.map (·.1) → h2.get? q.1 = some q.2 := fun q hq hn => stay _ _ (ledger q hq).1 (ledger q hq).2 fun hm => by
      rcases List.mem_cons.mp hm with h | h
      · exact notL q hq h
      · exact hn h
    refine ⟨hd.map nw, ⟨⟨?_, fun b o q => ?_, G0.F.above⟩, fun q hq => ?_, ?_, fun q hq r hr => ?_⟩, fun t ht => ?_, fun u hu => ?_⟩
    · obtain ⟨sl, hs⟩ := hU L.a oL hL1 (dictNo hnL)
      obtain ⟨es, ep, hdd, r⟩ := hnL
      exact ⟨_, es, ep, hs, hdd, r⟩
    · have e1 := G0.F.keep b o q
      have hbI : b ≠ I := fun x => by rw [x, hI.2.2] at q; cases q
      refine stay b o (hk _ _ hbI e1) (fun x => by rw [x, he] at e1; cases e1) fun hm => ?_
      rcases List.mem_cons.mp hm with h | h
      · rw [h] at q
        exact absurd (Nat.lt_of_lt_of_le (Heap.lt_size q) G0.F.above) (Nat.lt_irrefl _)
      · obtain ⟨u, hu, eu⟩ := List.mem_map.mp h
        obtain ⟨ou, hou, _, _⟩ := upObj u hu
        have := h0n (u.1, ou) (List.mem_append_left _ (List.mem_append_right _ hou))
        have eu' : u.1 = b := eu
        rw [show (u.1, ou).1 = b from eu', q] at this
        cases this
    · have cases' : q ∈ fix ++ fz ∨ ∃ q' ∈ hd, nw q' = q := by
        rcases List.mem_append.mp hq with hq | hq
        · rcases List.mem_append.mp hq with hq | hq
          · exact .inl (List.mem_append_left _ hq)
          · exact .inr (List.mem_map.mp hq)
        · exact .inl (List.mem_append_right _ hq)
      rcases cases' with hq | ⟨q', hq', rfl⟩
      · have hm : q ∈ (fix ++ hd) ++ fz := by
          rcases List.mem_append.mp hq with hq | hq
          · exact List.mem_append_left _ (List.mem_append_left _ hq)
          · exact List.mem_append_right _ hq
        exact ⟨led2 q hm (offUp q hq), notL q hm, h0n q hm⟩
      · have hm : q' ∈ (fix ++ hd) ++ fz := List.mem_append_left _ (List.mem_append_right _ hq')
        rw [nw1]
        refine ⟨?_, notL q' hm, h0n q' hm⟩
        show h2.get? q'.1 = some (if _ then _ else _ : Addr × Obj).2
        split
        · rename_i hu
          obtain ⟨u, hu', eu⟩ := List.mem_map.mp hu
          obtain ⟨ou, hou, hnu, hgu⟩ := upObj u hu'
          obtain ⟨sl, hs⟩ := hU u.1 ou hgu (dictNo hnu)
          have eu' : u.1 = q'.1 := eu
          rw [← eu', hs]; rfl
        · rename_i hu; exact led2 q' hm hu
    · have nd := G0.nd
      rw [List.cons_append, List.map_cons, List.nodup_cons] at nd
      have e1 : ((fix ++ hd.map nw).map (·.1)) = (fix ++ hd).map (·.1) := by
        rw [List.map_append, List.map_append, List.map_map]
        congr 1
        exact List.map_congr_left fun q _ => nw1 q
      rw [e1]; exact nd.2
    · rcases List.mem_append.mp hq with hq | hq
      · exact G0.dj q (List.mem_cons_of_mem _ (List.mem_append_left _ hq)) r hr
      · obtain ⟨q', hq', rfl⟩ := List.mem_map.mp hq
        rw [nw1]
        exact G0.dj q' (List.mem_cons_of_mem _ (List.mem_append_right _ hq')) r hr
    · obtain ⟨ps, t1, t2, t3⟩ := TT t ht
      refine ⟨ps, ?_, t2, t3⟩
      have hn : t.1 ∉ L.up.map (·.1) := fun hm => by
        obtain ⟨u, hu, eu⟩ := List.mem_map.mp hm
        obtain ⟨ou, hou, hnu, hgu⟩ := upObj u hu
        have g1 := (ledger _ (List.mem_append_left _ (List.mem_append_right _ t1))).1
        have eu' : u.1 = t.1 := eu
        rw [eu', g1] at hgu
        cases hgu
        exact dictNo hnu _ rfl
      refine List.mem_map.mpr ⟨_, t1, ?_⟩
      show (if _ then _ else _ : Addr × Obj) = _
      rw [if_neg hn]
    · obtain ⟨ou, hou, hnu, hgu⟩ := upObj u hu
      obtain ⟨sl, hs⟩ := hU u.1 ou hgu (dictNo hnu)
      refine ⟨{ ou with slots := sl }, List.mem_map.mpr ⟨_, hou, ?_⟩, ?_⟩
      · show (if _ then _ else _ : Addr × Obj) = _
        rw [if_pos (List.mem_map_of_mem hu), hs]; rfl
      · obtain ⟨es, ep, hdd, r⟩ := hnu
        exact ⟨es, ep, hdd, r⟩
end
end
section -- MZ
/-- an exception fresh out of its making -/
noncomputable def Exc0 (h : Heap) (e : Addr) : Prop := ∃ oe vs a0, h.get? e = some oe ∧ oe.cls = .type "StopIteration" ∧ oe.data = .fields vs ∧ vs[1]? = some .none ∧ vs[0]? = some a0

section
variable {prog : Program} {w : World} {A : Around} {E : Value → Shared → Prop} {s : Shared}

theorem next_item {it l : Addr} {i : Nat} {items : Array Value} {x : Value} {Q : Value → Shared → Prop} (hit : s.heap.IsListIter it l i) (hl : s.heap.IsList l items) (hx : items[i]? = some x)
    (hQ : ∀ h', h'.IsListIter it l (i + 1) → Heap.SameBut it s.heap h' → Q x { s with heap := h' }) : wpAny (model prog w) A (call (.builtin "next") [.ref it]) Q E s := by
  obtain ⟨o, ho, hc, hd⟩ := id hit
  obtain ⟨ol, hol, _, nl, hdl⟩ := hl
  refine call_function_entry (by decide +kernel) (by decide +kernel) kdk_entry_next (kdk_args_next _) ?_
  unfold Builtin.«next»
  refine wpAny_bind (m := someArgs "next" 1 2 _) (wpAny_of_eq (a := [Value.ref it]) (by first | rfl | kernel_rfl!) ?_)
  dsimp only
  refine wpAny_bind (wpAny_specialOf (name := Str.ofString "__next__") hit.typeIs slot_listiter_next.lookup ?_)
  refine wpAny_ite_split (fun hab => absurd hab (by decide)) (fun _ => ?_)
  refine wpAny_bind (wpAny_callSpecial?_slot (name := Str.ofString "__next__") hit.typeIs slot_listiter_next
    (wpAny_call_entry slot_listiter_next hit.typeIs entry_listiter_next ?_ (args_listiter_next _)))
  show wpAny _ _ (field (.ref it) 0 >>= _) _ _ s
  refine wpAny_bind (wpAny_field ho hd (x := .ref l) rfl ?_)
  show wpAny _ _ (if (Value.ref l == Value.none) = true then _ else _) _ _ s
  rw [if_neg (show ¬ ((Value.ref l == Value.none) = true) from Bool.false_ne_true)]
  show wpAny _ _ (field (.ref it) 1 >>= _) _ _ s
  refine wpAny_bind (wpAny_field ho hd (x := .int i 0) rfl ?_)
  show wpAny _ _ (seqItems? (.ref l) >>= _) _ _ s
  refine wpAny_bind (wpAny_seqItems hol hdl ?_)
  simp only [Int.toNat_natCast, hx]
  refine wpAny_bind (wpAny_setField ho hd (by simp) (wpAny_pure ⟨x, rfl, wpAny_pure ⟨_, rfl, hQ _ ?_ (Heap.SameBut.update ..)⟩⟩))
  exact ⟨_, Heap.get?_update_self _ ho (Obj.isFreed_of_fields (Obj.data_mapFields hd _)), (Obj.cls_mapFields ..).trans hc, by
    rw [Obj.data_mapFields hd]; simp [rawInt]⟩

theorem next_end {it l : Addr} {i : Nat} {items : Array Value} {Q : Value → Shared → Prop} (hh : A.handled = none) (hit : s.heap.IsListIter it l i) (hl : s.heap.IsList l items) (hx : items[i]? = none)
    (hE : ∀ h' e, (∀ b o, b ≠ it → s.heap.get? b = some o → h'.get? b = some o) → s.heap.get? e = none → Exc0 h' e → E (.ref e) { s with heap := h' }) : wpAny (model prog w) A (call (.builtin "next") [.ref it]) Q E s := by
  obtain ⟨o, ho, hc, hd⟩ := id hit
  obtain ⟨ol, hol, _, nl, hdl⟩ := hl
  refine call_function_entry (by decide +kernel) (by decide +kernel) kdk_entry_next (kdk_args_next _) ?_
  unfold Builtin.«next»
  refine wpAny_bind (m := someArgs "next" 1 2 _) (wpAny_of_eq (a := [Value.ref it]) (by first | rfl | kernel_rfl!) ?_)
  dsimp only
  refine wpAny_bind (wpAny_specialOf (name := Str.ofString "__next__") hit.typeIs slot_listiter_next.lookup ?_)
  refine wpAny_ite_split (fun hab => absurd hab (by decide)) (fun _ => ?_)
  refine wpAny_bind (wpAny_callSpecial?_slot (name := Str.ofString "__next__") hit.typeIs slot_listiter_next
    (wpAny_call_entry slot_listiter_next hit.typeIs entry_listiter_next ?_ (args_listiter_next _)))
  show wpAny _ _ (field (.ref it) 0 >>= _) _ _ s
  refine wpAny_bind (wpAny_field ho hd (x := .ref l) rfl ?_)
  show wpAny _ _ (if (Value.ref l == Value.none) = true then _ else _) _ _ s
  rw [if_neg (show ¬ ((Value.ref l == Value.none) = true) from Bool.false_ne_true)]
  show wpAny _ _ (field (.ref it) 1 >>= _) _ _ s
  refine wpAny_bind (wpAny_field ho hd (x := .int i 0) rfl ?_)
  show wpAny _ _ (seqItems? (.ref l) >>= _) _ _ s
  refine wpAny_bind (wpAny_seqItems hol hdl ?_)
  simp only [Int.toNat_natCast, hx]
  refine wpAny_bind (wpAny_rule (wpAny_bind (wpAny_setField ho hd (by simp) ?_)))
  show wpAny _ _ (newExc (.type "StopIteration") [] >>= _) _ _ _
  refine wpAny_bind ?_
  simp only [newExc, newTuple]
  refine wpAny_bind (wpAny_newObj_type ?_ (by size_fits))
  refine wpAny_bind (m := firstArgMember _ _) (wpAny_of_eq (a := Value.none) (by first | rfl | (simp only [firstArgMember]; rfl)) ?_)
  refine wpAny_newObj_type ?_ (by size_fits)
  simp only [raiseNew]
  refine wpAny_bind (wpAny_handled ?_)
  rw [show A.in1.in1.handled = none from hh]
  refine wpAny_bind (wpAny_pure (wpAny_throw ?_))
  refine hE _ _ (fun b o hb e => (((Heap.SameBut.update (a := it) ..).extBut.push _).push _) b o hb e) ?_ ⟨_, _, .ref (s.heap.update it (Obj.mapFields fun x => x.setIfInBounds 0 Value.none)).objs.size, Heap.get?_push_size _ rfl, rfl, rfl, ?_, ?_⟩
  · refine Heap.get?_none_of_le ?_
    rw [Heap.size_push, Heap.size_after_update]
    exact Nat.le_succ _
  · rw [Array.getElem?_append_left (by simp)]; rfl
  · rw [Array.getElem?_append_left (by simp)]; rfl
end
end
section -- MZa
section
variable {M : Model} {A : Around} {E : Value → Shared → Prop} {s : Shared} {h₀ : Heap} {L : Stk} {m : Str → Option Value} {fix fz : Led} {p : Program} {loose : Heap → Prop} {mean : ExcName → Option Value} {mg mb : Str → Option Value} {A₀ : Around} {base : Heap} {outer : List Env} {fenv : Env} {dep : Nat}

theorem fun_frames {B h : Heap} : ∀ {l : List Env} {bs : List Addr}, l.map (·.frame) = bs.map some → (∀ env ∈ l, env.scope.kind = .function) → (∀ b ∈ bs, B.get? b = none ∧ ∃ o, h.get? b = some o ∧ ∀ vs, o.data ≠ .fields vs) → h.FunFrames B l
  | [], _, _, _, _ => trivial
  | env :: l, [], e, _, _ => by cases e
  | env :: l, b :: bs, e, hk, hb => by
    rw [List.map_cons, List.map_cons] at e
    injection e with e1 e2
    obtain ⟨h1, o, h2, h3⟩ := hb b List.mem_cons_self
    exact ⟨by rw [hk env List.mem_cons_self]; decide, ⟨b, o, e1, h1, h2, h3⟩, fun_frames e2 (fun x hx => hk x (List.mem_cons_of_mem _ hx)) fun c hc => hb c (List.mem_cons_of_mem _ hc)⟩
theorem Fx.fun {B h : Heap} (X : Fx p loose mean mg mb A₀ A base h₀ outer fenv L dep) (hb : ∀ b ∈ frs L, B.get? b = none ∧ ∃ o, h.get? b = some o ∧ ∀ vs, o.data ≠ .fields vs) : h.FunFrames B (fenv :: outer) := by
  refine fun_frames (bs := frs L) ?_ (fun env he => ?_) hb
  · rw [List.map_cons, frs, List.map_cons, X.hf, X.up.1, List.map_map]; rfl
  · rcases List.mem_cons.mp he with rfl | he
    · exact X.hk
    · exact X.up.2 env he

/-- what is known while it flies -/
noncomputable def Land (B h : Heap) (h₀ : Heap) (L : Stk) (m : Str → Option Value) (fix fz : Led) : Prop := ∀ h', B.StaysIn h' → h.UpToSlots h' → Lg h₀ L m fix fz h'
theorem Land.next {B h h2 : Heap} (l : Land B h h₀ L m fix fz) (u : h.UpToSlots h2) : Land B h2 h₀ L m fix fz := fun h' a b => l h' a (u.trans b)

noncomputable abbrev SI : Value := .type "StopIteration"

theorem note_first {B : Heap} {e : Addr} (X : Fx p loose mean mg mb A₀ A base h₀ outer fenv L dep) (hB : B.StaysIn s.heap) (hBe : B.get? e = none) (hF : ∀ b ∈ frs L, B.get? b = none ∧ ∃ o, s.heap.get? b = some o ∧ ∀ vs, o.data ≠ .fields vs)
    (hx : Exc0 s.heap e) {Q : Unit → Shared → Prop} (hQ : ∀ a0 h', Heap.HeldW B (fenv :: outer) e SI a0 L.a h' → s.heap.UpToSlots h' → Q () { s with heap := h' }) : wpAny M A (noteFrame (.ref e) fenv) Q E s := by
  obtain ⟨oe, vs, a0, he, hc, hd, h1, h0⟩ := hx
  have FF := X.fun hF
  unfold noteFrame
  simp only [X.hf]
  refine wpAny_bind (wpAny_field he hd h1 ?_)
  rw [if_neg (by decide)]
  refine wpAny_entryW X.hA FF X.hf he hB hBe hd (Array.getElem?_eq_some_iff.mp h1).1 h0 fun h' hN => ?_
  obtain ⟨k1, k2, k3, k4⟩ := hN
  rw [hc] at k3
  exact hQ a0 h' ⟨k1, hBe, k2, k3⟩ k4

theorem leave_first {B : Heap} {e : Addr} (X : Fx p loose mean mg mb A₀ A base h₀ outer fenv L dep) (hB : B.StaysIn s.heap) (hBe : B.get? e = none) (hF : ∀ b ∈ frs L, B.get? b = none ∧ ∃ o, s.heap.get? b = some o ∧ ∀ vs, o.data ≠ .fields vs)
    (hx : Exc0 s.heap e) {Q : Unit → Shared → Prop} (hQ : ∀ a0 h', Heap.FlyingW B outer e SI a0 h' → s.heap.UpToSlots h' → Q () { s with heap := h' }) : wpAny M A (leaving fenv (.ref e)) Q E s := by
  obtain ⟨oe, vs, a0, he, hc, hd, h1, h0⟩ := hx
  refine wpAny_leaving_firstW X.hA (X.fun hF) X.hf he hB hBe hd h1 h0 fun h' hL => ?_
  obtain ⟨k1, ⟨_, _, k2⟩, k3, k4⟩ := hL
  rw [hc] at k3
  exact hQ a0 h' ⟨k1, hBe, k2, k3⟩ k4

theorem leave_held {B : Heap} {e : Addr} {a0 : Value} (X : Fx p loose mean mg mb A₀ A base h₀ outer fenv L dep) (hh : Heap.HeldW B (fenv :: outer) e SI a0 L.a s.heap)
    {Q : Unit → Shared → Prop} (hQ : ∀ h', Heap.FlyingW B outer e SI a0 h' → s.heap.UpToSlots h' → Q () { s with heap := h' }) : wpAny M A (leaving fenv (.ref e)) Q E s := by
  unfold leaving
  refine wpAny_bind (wpAny_noteFrame_againW X.hf hh.2.2.2 ?_)
  refine wpAny_landsW hh fun h' hfl hu => ?_
  obtain ⟨k1, k2, ⟨_, _, k3⟩, k4⟩ := hfl
  exact hQ h' ⟨k1, k2, k3, k4⟩ hu

theorem came_back {B : Heap} {e : Addr} {a0 : Value} {l : List Env} (hf : fenv.frame = some L.a) (hh : Heap.HeldW B l e SI a0 L.a s.heap)
    (hE : ∀ h', Heap.HeldW B l e SI a0 L.a h' → s.heap.UpToSlots h' → E (.ref e) { s with heap := h' }) : cameBackBy M A fenv E (.ref e) s := by
  obtain ⟨f1, f2, f3, oe, vs, T, oT, ts, he, hcls, hd, h1, hnT, hTe, hT, hdT, h3⟩ := hh
  unfold cameBackBy
  refine wpAny_bind (wpAny_field he hd h1 ?_)
  rw [if_neg (by simp)]
  have hsz3 : 3 < ts.size := (Array.getElem?_eq_some_iff.mp h3).1
  unfold setFlight
  refine wpAny_bind (wpAny_field he hd h1 ?_)
  rw [if_pos (show (Value.ref T != Value.none) = true from by simp), hf]
  have other : ∀ b, b ≠ T → (s.heap.update T (Obj.mapFields (·.setIfInBounds 3 (rawInt L.a)))).get? b = s.heap.get? b := fun b hb => Heap.get?_update_other _ _ (Ne.symm hb)
  have noRecord : ∀ b o, s.heap.get? b = some o → (∀ vs, o.data ≠ .fields vs) → b ≠ T := fun b o hb hnf q => by
    rw [q, hT] at hb; injection hb with hb; subst hb; exact hnf ts hdT
  refine wpAny_setField hT hdT hsz3 (hE _ ⟨fun b o hbo => (other b fun q => by rw [q, hnT] at hbo; cases hbo).trans (f1 b o hbo), f2, f3.of_keeps fun b o hb hnf => ⟨o, (other b (noRecord b o hb hnf)).trans hb, rfl⟩, ?_⟩ fun b o hb hn => ⟨o.slots, (other b (noRecord b o hb hn)).trans hb⟩)
  exact ⟨oe, vs, T, _, _, (other e (Ne.symm hTe)).trans he, hcls, hd, h1, hnT, hTe, Heap.get?_update_self _ hT (Obj.isFreed_of_fields (Obj.data_mapFields hdT _)), Obj.data_mapFields hdT _, by simp [hsz3]⟩
end
end
section -- MZb
/-! ## an expression's value, step by step -/
section
variable {Φ : Phi} {nm : Names} {ρ : Rho} {p q gp : Pos} {a b c : R}
theorem td_b {b f : Bool} : truthD ((D.bool b, f) : R).1 = some b := rfl
theorem td_i {i : Int} {f : Bool} : truthD ((D.int i, f) : R).1 = some (i != 0) := rfl
theorem td_l {l : List D} {f : Bool} : truthD ((D.lst l, f) : R).1 = some (!l.isEmpty) := rfl
theorem e_to {x : Expr} {r r' : R} (h : Ev Φ nm ρ (.E x r)) (e : r = r') : Ev Φ nm ρ (.E x r') := e ▸ h
theorem t_to {x : Expr} {v v' : Bool} (h : Ev Φ nm ρ (.T x v)) (e : v = v') : Ev Φ nm ρ (.T x v') := e ▸ h
theorem s_to {es : List Expr} {ds ds' : List D} {f f' : Bool} (h : Ev Φ nm ρ (.S es ds f)) (e : ds = ds') (e' : f = f') : Ev Φ nm ρ (.S es ds' f') := e ▸ e' ▸ h
theorem i_to {x : Expr} {ds ds' : List D} (h : Ev Φ nm ρ (.I x ds)) (e : ds = ds') : Ev Φ nm ρ (.I x ds') := e ▸ h
theorem e_len {e : Expr} {β : Type} {l : List β} {h : β → D} {f : Bool} (h1 : nm.lookup (Str.ofString "len") = some .globalImplicit) (hs : notStar e = true) (h2 : Ev Φ nm ρ (.E e (.lst (l.map h), f))) : Ev Φ nm ρ (.E (.Call (.Name (Str.ofString "len") gp) [e] [] p) (.int l.length, true)) :=
  .callb h1 (.s_cons hs h2 .s_nil) (congrArg (fun n : Nat => some (some (D.int n))) (List.length_map h))
/-! operators on whole numbers -/
variable {x y : Int} {f g : Bool}
theorem b_mul (h : mulFit x y = true) : bopR .Mult (.int x, f) (.int y, g) = some (.int (x * y), true) := if_pos h
theorem b_div (h : 0 < y) (h8 : log8 y = true) : bopR .FloorDiv (.int x, f) (.int y, g) = some (.int (x / y), true) := by
  rw [← Int.fdiv_eq_ediv_of_nonneg x (Int.le_of_lt h)]
  exact if_pos ⟨Int.ne_of_gt h, h8⟩
theorem b_fdiv (h : y ≠ 0) (h8 : log8 y = true) : bopR .FloorDiv (.int x, f) (.int y, g) = some (.int (x.fdiv y), true) := if_pos ⟨h, h8⟩
theorem b_mod (h : 0 < y) : bopR .Mod (.int x, f) (.int y, g) = some (.int (x % y), true) := by
  rw [← Int.fmod_eq_emod_of_nonneg x (Int.le_of_lt h)]
  exact if_neg (Int.ne_of_gt h)
theorem b_pow {k : Nat} (h : k ≤ 1000) (hx : log60 x = true) : bopR .Pow (.int x, f) (.int (k : Int), g) = some (.int (x ^ k), true) := if_pos ⟨Int.natCast_nonneg _, by (first | lia | omega), hx⟩
theorem b_shl {k : Nat} (h : k ≤ 100000) (hx : log8 x = true) : bopR .LShift (.int x, f) (.int (k : Int), g) = some (.int (x * 2 ^ k), true) := if_pos ⟨Int.natCast_nonneg _, by (first | lia | omega), hx⟩
theorem b_shr {k : Nat} : bopR .RShift (.int x, f) (.int (k : Int), g) = some (.int (x.fdiv (2 ^ k)), true) := by
  show (if 0 ≤ (k : Int) then some (D.int (x.fdiv (2 ^ ((k : Int).toNat))), true) else none) = _
  rw [if_pos (Int.natCast_nonneg _)]; rfl
theorem sq_ok {l : List D} (h : l.length ≤ line24) (hf : (f || allAtom l) = true) : seqR l f = some (.lst l, true) := if_pos ⟨h, hf⟩
theorem sq_ints {l : List Int} (h : (l.map D.int).length ≤ line24) : seqR (l.map .int) f = some (.lst (l.map .int), true) := if_pos ⟨h, by rw [allAtom_ints]; simp⟩
theorem mf_r {a b : Int} (h : log60 b = true) : mulFit a b = true := by unfold mulFit; rw [h]; simp
theorem mf_l {a b : Int} (h : log60 a = true) : mulFit a b = true := by unfold mulFit; rw [h]; simp
theorem q_eq : cmpR .Eq (.int x, f) (.int y, g) = some (decide (x = y)) := by
  show (if (D.int x).dep ≤ 60 ∧ (D.int y).dep ≤ 60 then some (eqD (.int x) (.int y)) else none) = _
  rw [if_pos ⟨by simp [D.dep], by simp [D.dep]⟩]
  rfl
theorem q_ne : cmpR .NotEq (.int x, f) (.int y, g) = some (!decide (x = y)) := by
  show (if (D.int x).dep ≤ 60 ∧ (D.int y).dep ≤ 60 then some (!eqD (.int x) (.int y)) else none) = _
  rw [if_pos ⟨by simp [D.dep], by simp [D.dep]⟩]
  rfl
theorem q_eqD {d e : D} {v : Bool} (h1 : d.dep ≤ 60) (h2 : e.dep ≤ 60) (h : eqD d e = v) : cmpR .Eq (d, f) (e, g) = some v := by rw [← h]; exact if_pos ⟨h1, h2⟩
theorem q_neD {d e : D} {v : Bool} (h1 : d.dep ≤ 60) (h2 : e.dep ≤ 60) (h : eqD d e = v) : cmpR .NotEq (d, f) (e, g) = some (!v) := by rw [← h]; exact if_pos ⟨h1, h2⟩
end

/-! ## statements -/
section
variable {Φ : Phi} {Ψ : Psi} {nm : Names} {ρ ρ' ρ₁ : Rho} {p : Pos} {f : Flw}
theorem r_ift {t : Expr} {b o : List Stmt} {v : Bool} (h1 : Ev Φ nm ρ (.T t v)) (hv : v = true) (h2 : Run Φ Ψ nm (.B b) ρ ρ' f) : Run Φ Ψ nm (.S (.If t b o p)) ρ ρ' f := .ite (b := true) (hv ▸ h1) h2
theorem r_iff {t : Expr} {b o : List Stmt} {v : Bool} (h1 : Ev Φ nm ρ (.T t v)) (hv : v = false) (h2 : Run Φ Ψ nm (.B o) ρ ρ' f) : Run Φ Ψ nm (.S (.If t b o p)) ρ ρ' f := .ite (b := false) (hv ▸ h1) h2
theorem r_stop {s : Stmt} {r : List Stmt} {d : D} (h : Run Φ Ψ nm (.S s) ρ ρ₁ (.ret d)) : Run Φ Ψ nm (.B (s :: r)) ρ ρ₁ (.ret d) := .stop h (by intro e; cases e)
noncomputable def retLast : List Stmt → Bool
  | [] => false
  | .Return _ _ :: [] => true
  | _ :: r => retLast r
theorem r_one {s : Stmt} {d : D} (h : Run Φ Ψ nm (.S s) ρ ρ₁ (.ret d)) : Run Φ Ψ nm (.B [s]) ρ ρ₁ (.ret d) := r_stop h
theorem r_stopT {t : Expr} {b o : List Stmt} {r : List Stmt} {v : Bool} {d : D} (hb : retLast b = true) (h1 : Ev Φ nm ρ (.T t v)) (hv : v = true) (h2 : Run Φ Ψ nm (.B b) ρ ρ₁ (.ret d)) : Run Φ Ψ nm (.B (.If t b o p :: r)) ρ ρ₁ (.ret d) := r_stop (r_ift h1 hv h2)
theorem r_cons {s : Stmt} {r : List Stmt} {ρ₂ : Rho} (h1 : Run Φ Ψ nm (.S s) ρ ρ₁ .next) (h2 : Run Φ Ψ nm (.B r) ρ₁ ρ₂ f) : Run Φ Ψ nm (.B (s :: r)) ρ ρ₂ f := .cons h1 h2
theorem r_asg {tgt e : Expr} {d : D} (h1 : Ev Φ nm ρ (.E e (d, true))) (h2 : asgD ρ tgt d = some ρ') (h3 : tgtOk tgt e = true) : Run Φ Ψ nm (.S (.Assign [tgt] e p)) ρ ρ' .next := .asg h1 h2 h3
theorem r_own {x : Str} {xp lp : Pos} {es : List Expr} {ds : List D} {g : Bool} (h1 : Ev Φ nm ρ (.S es ds g)) (h2 : (g || allAtom ds) = true) (h3 : ds.length ≤ line24) (h4 : isLoc ρ x = true) : Run Φ Ψ nm (.S (.Assign [.Name x xp] (.List es lp) p)) ρ (upd ρ x (.own ds)) .next := .own h1 h2 h3 h4
theorem r_callO {x g : Str} {xp gp cp : Pos} {es : List Expr} {ds l : List D} (h0 : nm.lookup g = some .globalImplicit) (h1 : Ev Φ nm ρ (.S es ds true)) (h2 : Ψ g ds = some l) (h4 : isLoc ρ x = true) : Run Φ Ψ nm (.S (.Assign [.Name x xp] (.Call (.Name g gp) es [] cp) p)) ρ (upd ρ x (.own l)) .next := .callOwn h0 h1 h2 h4
theorem r_app {x : Str} {xp ap cp : Pos} {e : Expr} {l : List D} {d : D} {g : Bool} (h0 : ρ.lookup x = some (.own l)) (h1 : Ev Φ nm ρ (.E e (d, g))) (h2 : (g || atom d) = true) (h3 : l.length < line24) (h4 : ap.endLine = cp.line) (h5 : notStar e = true) :
    Run Φ Ψ nm (.S (.Expr (.Call (.Attribute (.Name x xp) (Str.ofString "append") ap) [e] [] cp) p)) ρ (upd ρ x (.own (l ++ [d]))) .next := .append h0 h1 h2 h3 h4 h5
theorem r_ext {x : Str} {xp ap cp : Pos} {e : Expr} {l ds : List D} {g : Bool} (h0 : ρ.lookup x = some (.own l)) (h1 : Ev Φ nm ρ (.E e (.lst ds, g))) (h2 : (g || allAtom ds) = true) (h3 : l.length + ds.length ≤ line24) (h4 : ap.endLine = cp.line) (h5 : notStar e = true) :
    Run Φ Ψ nm (.S (.Expr (.Call (.Attribute (.Name x xp) (Str.ofString "extend") ap) [e] [] cp) p)) ρ (upd ρ x (.own (l ++ ds))) .next := .extend h0 h1 h2 h3 h4 h5
theorem r_rev {x : Str} {xp ap cp : Pos} {l : List D} (h0 : ρ.lookup x = some (.own l)) (h4 : ap.endLine = cp.line) :
    Run Φ Ψ nm (.S (.Expr (.Call (.Attribute (.Name x xp) (Str.ofString "reverse") ap) [] [] cp) p)) ρ (upd ρ x (.own l.reverse)) .next := .reverse h0 h4
theorem r_aug {x : Str} {xp : Pos} {op : Operator} {e : Expr} {a b : R} {d : D} (h0 : getV ρ x = some a) (h1 : Ev Φ nm ρ (.E e b)) (h2 : iopR op a b = some (d, true)) (h3 : setV ρ x d = some ρ') : Run Φ Ψ nm (.S (.AugAssign (.Name x xp) op e p)) ρ ρ' .next := .aug h0 h1 h2 h3
theorem r_ret {e : Expr} {d : D} (h1 : Ev Φ nm (froz ρ) (.E e (d, true))) : Run Φ Ψ nm (.S (.Return (some e) p)) ρ ρ (.ret d) := .ret h1
theorem o_to {α : Type} {x : Option α} {q q' : α} (h : x = some q) (e : q = q') : x = some q' := e ▸ h
theorem r_to {t : Tsk} (h : Run Φ Ψ nm t ρ ρ₁ f) (e : ρ₁ = ρ') : Run Φ Ψ nm t ρ ρ' f := e ▸ h
end

structure plain (x : Slot) : Prop where
  f : isFre x = false
  v : ∀ d, slotV x d = .val d
  z : frozS x = x
theorem plain_unset : plain .unset := ⟨rfl, fun _ => rfl, rfl⟩
theorem plain_val (d : D) : plain (.val d) := ⟨rfl, fun _ => rfl, rfl⟩
theorem plain.loc {ρ : Rho} {x : Str} {t : Slot} (h : ρ.lookup x = some t) (ht : plain t) : isLoc ρ x = true := by
  unfold isLoc
  rw [h]
  cases t <;> first | rfl | (cases ht.f; done) | exact absurd (ht.v .none) (by intro e; cases e)
theorem set_p {ρ : Rho} {x : Str} {t : Slot} {d : D} (h : ρ.lookup x = some t) (ht : plain t) : setV ρ x d = some (upd ρ x (.val d)) := by rw [setV_of h ht.f, ht.v]
theorem asg_p {ρ : Rho} {x : Str} {p : Pos} {t : Slot} {d : D} (h : ρ.lookup x = some t) (ht : plain t) : asgD ρ (.Name x p) d = some (upd ρ x (.val d)) := set_p h ht
theorem asg_pp {ρ ρ₁ ρ₂ : Rho} {x y : Str} {p q r : Pos} {k : Nat} {d e : D} (hn : (x != y) = true) (h1 : setV ρ x d = some ρ₁) (h2 : setV ρ₁ y e = some ρ₂) : asgD ρ (.Tuple [.Name x p, .Name y q] k r) (.tup [d, e]) = some ρ₂ := by
  unfold asgD
  simp only [hn, if_true, h1, Option.bind_some, h2]
end
local macro_rules | `(tactic| walk_at "T") => `(tactic| ((case h1 => walk_at "E"); (case hv => walk_at "B")))
local macro_rules | `(tactic| walk_at "A") => `(tactic| first | rfl | (apply asg_p (by rfl); assumption) | (apply asg_pp (by rfl) <;> first | rfl | (apply set_p (by rfl); assumption)))
local macro_rules | `(tactic| walk_at "B") => `(tactic| first | rfl | decide | assumption | ((first | apply decide_eq_true | apply decide_eq_false); first | assumption | omega) | (simp [*]; done))
local macro_rules | `(tactic| walk_at "E") => `(tactic| repeat' (first
  | ((with_reducible apply Ev.n); rfl)
  | ((with_reducible apply Ev.ift); walk_at "T")
  | ((with_reducible apply Ev.iff); walk_at "T")
  | with_reducible apply Ev.sl
  | ((with_reducible apply e_len); (case h1 => rfl); (case hs => rfl); (case h2 => (apply e_to; (case h => walk_at "E"); (case e => rfl))))
  | ((with_reducible apply Ev.callf); (case h1 => rfl); (case h2 => walk_at "E"); (case hf => rfl); (case h3 => assumption))
  | with_reducible apply Ev.callb
  | with_reducible first | exact q_eq | exact q_ne | assumption | apply b_mul | apply b_mod | apply b_div | apply b_pow | exact b_shr | apply b_shl | apply Ev.g | constructor
  | assumption | rfl | decide | exact Nat.le_of_ble_eq_true (by rfl) | exact mf_r (by decide) | exact mf_l (by decide)
  | (apply sq_ints; first | assumption | exact Nat.le_of_ble_eq_true (by rfl)) | apply sq_ok))
local macro_rules | `(tactic| walk_at "S") => `(tactic| repeat' (first
  | exact Run.nil
  | apply r_one
  | (apply r_ret; walk_at "V")
  | (apply r_stop; apply r_ret; walk_at "V")
  | (apply r_stopT (by rfl); walk_at "T")
  | apply r_cons
  | (apply r_own; (case h1 => walk_at "E"); (case h2 => rfl); (case h3 => (first | exact Nat.le_of_ble_eq_true (by rfl) | assumption)); (case h4 => (first | rfl | (apply plain.loc (by rfl); assumption))))
  | (apply r_ift; walk_at "T")
  | (apply r_iff; walk_at "T")
  | (apply r_rev; rfl; rfl)
  | (apply r_ext (by rfl); (case h1 => walk_at "E"); (case h2 => (first | rfl | assumption)); assumption; rfl; rfl)
  | (apply r_aug (by rfl); (case h1 => walk_at "E"); (case h2 => (first | rfl | assumption)); rfl)
  | (apply r_app (by rfl); (case h1 => walk_at "E"); rfl; assumption; rfl; rfl)
  | (apply r_asg; (case h1 => walk_at "E"); (case h2 => walk_at "A"); rfl)))
local macro_rules | `(tactic| walk_at "R") => `(tactic| (apply r_to; (case h => walk_at "S"); (case e => (first | rfl | (simp only [List.map_append, List.map_cons, List.map_nil]; rfl)))))
local macro_rules | `(tactic| walk_at "V") => `(tactic| ((first | apply e_to | apply t_to | apply s_to | apply i_to); (case h => walk_at "E"); all_goals walk_at "B"))
section -- NA
noncomputable abbrev pw := PySem.Challenge.pw_wn0059_02
noncomputable def fD2I : DefRec := fnIx pw 7
noncomputable def inD : DefRec := nestAt fD2I.body 0

theorem eqD_int (a b : Int) : eqD (.int a) (.int b) = decide (a = b) := by
  unfold eqD; simp only [D.py]; rfl
theorem log60_of {x : Int} (h : x.natAbs < 2 ^ 60) : log60 x = true := by
  unfold log60
  rcases Nat.eq_zero_or_pos x.natAbs with e | e
  · rw [e]; decide
  · exact decide_eq_true ((Nat.log2_lt (Nat.ne_of_gt e)).mpr h)
theorem log8_of {x : Int} (h : x.natAbs < 2 ^ 8000) : log8 x = true := by
  unfold log8
  rcases Nat.eq_zero_or_pos x.natAbs with e | e
  · rw [e]; decide
  · exact decide_eq_true ((Nat.log2_lt (Nat.ne_of_gt e)).mpr h)

/-! ## the value of digits -/
noncomputable def d2i (n : Nat) : List Int → Int
  | [] => 0
  | d :: r => d + 2 ^ n * d2i n r
theorem d2i_append (n : Nat) : ∀ (xs ys : List Int), d2i n (xs ++ ys) = d2i n xs + 2 ^ (n * xs.length) * d2i n ys
  | [], ys => by simp [d2i]
  | d :: r, ys => by
    simp only [List.cons_append, d2i, d2i_append n r ys, List.length_cons, Nat.mul_add, Nat.mul_one]
    rw [Int.mul_add, ← Int.mul_assoc, ← Int.pow_add, Int.add_assoc, Nat.add_comm n (n * r.length)]
theorem d2i_lt (n : Nat) : ∀ (xs : List Int), (∀ x ∈ xs, 0 ≤ x ∧ x < 2 ^ n) → 0 ≤ d2i n xs ∧ d2i n xs < 2 ^ (n * xs.length)
  | [], _ => by simp [d2i]
  | d :: r, h => by
    obtain ⟨h1, h2⟩ := d2i_lt n r fun x hx => h x (List.mem_cons_of_mem _ hx)
    obtain ⟨h3, h4⟩ := h d List.mem_cons_self
    have hp : (0 : Int) < 2 ^ n := Int.pow_pos (by decide)
    refine ⟨?_, ?_⟩
    · show 0 ≤ d + 2 ^ n * d2i n r
      have := Int.mul_nonneg (Int.le_of_lt hp) h1
      (first | lia | omega)
    · show d + 2 ^ n * d2i n r < _
      rw [List.length_cons, Nat.mul_add, Nat.mul_one, Int.pow_add]
      have h5 : d2i n r + 1 ≤ 2 ^ (n * r.length) := h2
      have h6 := Int.mul_le_mul_of_nonneg_left h5 (Int.le_of_lt hp)
      rw [Int.mul_add, Int.mul_one] at h6
      rw [Int.mul_comm (2 ^ (n * r.length))]
      (first | lia | omega)
noncomputable def seg (ds : List Int) (l r : Nat) : List Int := (ds.drop l).take (r - l)
theorem seg_len {ds : List Int} {l r : Nat} (h : r ≤ ds.length) : (seg ds l r).length = r - l := by simp [seg]; (first | lia | omega)
theorem seg_split {ds : List Int} {l m r : Nat} (h1 : l ≤ m) (h2 : m ≤ r) : seg ds l r = seg ds l m ++ seg ds m r := by
  unfold seg
  have e : ds.drop m = (ds.drop l).drop (m - l) := by rw [List.drop_drop]; congr 1; (first | lia | omega)
  rw [e, show r - l = (m - l) + (r - m) by (first | lia | omega), List.take_add]
theorem seg_one {ds : List Int} {l : Nat} (h : l < ds.length) : seg ds l (l + 1) = [ds[l]] := by
  unfold seg
  rw [List.drop_eq_getElem_cons h, show l + 1 - l = 1 by (first | lia | omega)]
  rfl
theorem seg_mem {ds : List Int} {l r : Nat} {x : Int} (h : x ∈ seg ds l r) : x ∈ ds := List.mem_of_mem_drop (List.mem_of_mem_take h)

/-! ## the inner function of _digits2int -/
noncomputable abbrev dρ (ds : List Int) (n : Nat) (l r : Int) (mid sh : Slot) : Rho :=
  [(Str.ofString "L", .val (.int l)), (Str.ofString "R", .val (.int r)), (Str.ofString "mid", mid), (Str.ofString "shift", sh), (Str.ofString "digits", .fre (zl ds)), (Str.ofString "n", .fre (.int n))]
theorem inD_names : inD.scope.names = [(Str.ofString "L", .local), (Str.ofString "R", .local), (Str.ofString "mid", .local), (Str.ofString "shift", .local), (Str.ofString "digits", .free), (Str.ofString "inner", .free), (Str.ofString "n", .free)] := rfl

theorem idx_int (l : List Int) (f : Bool) (i : Nat) (h : i < l.length) : idxD (.lst (l.map .int), f) i = some (.int l[i], true) := by
  have e1 : -(l.length : Int) ≤ i := by (first | lia | omega)
  have e2 : (i : Int) < l.length := by (first | lia | omega)
  have e3 : ¬ ((i : Int) < 0) := by (first | lia | omega)
  simp [idxD, e1, e2, e3, h, atom_int]
theorem inD_s0 (Φ : Phi) (Ψ : Psi) (ds : List Int) (n l : Nat) (h : l < ds.length) : Run Φ Ψ inD.scope.names (.S (stAt inD.body 0)) (dρ ds n l ((l + 1 : Nat) : Int) .unset .unset)
      (dρ ds n l ((l + 1 : Nat) : Int) .unset .unset) (.ret (.int ds[l])) := by
  conv => arg 3; whnf
  conv => arg 4; arg 1; whnf
  have e := idx_int ds true l h
  walk_at "R"
theorem inD_s0' (Φ : Phi) (Ψ : Psi) (ds : List Int) (n : Nat) (l r : Int) (h : l + 1 ≠ r) : Run Φ Ψ inD.scope.names (.S (stAt inD.body 0)) (dρ ds n l r .unset .unset)
      (dρ ds n l r .unset .unset) .next := by
  conv => arg 3; whnf
  conv => arg 4; arg 1; whnf
  walk_at "R"
theorem inD_s1 (Φ : Phi) (Ψ : Psi) (ds : List Int) (n : Nat) (l r : Int) : Run Φ Ψ inD.scope.names (.S (stAt inD.body 1)) (dρ ds n l r .unset .unset)
      (dρ ds n l r (.val (.int ((l + r).fdiv 2))) .unset) .next := by
  conv => arg 3; whnf
  conv => arg 4; arg 1; whnf
  walk_at "R"
theorem inD_s2 (Φ : Phi) (Ψ : Psi) (ds : List Int) (n : Nat) (l r mid : Int) (hn : n < 2 ^ 60) : Run Φ Ψ inD.scope.names (.S (stAt inD.body 2)) (dρ ds n l r (.val (.int mid)) .unset)
      (dρ ds n l r (.val (.int mid)) (.val (.int ((mid - l) * n)))) .next := by
  conv => arg 3; whnf
  conv => arg 4; arg 1; whnf
  have hf : mulFit (mid - l) n = true := by unfold mulFit; rw [log60_of (x := (n : Int)) (by (first | lia | omega))]; simp
  walk_at "R"

section
variable {prog : Program} {w : World} {A : Around} {h₀ : Heap} {L : Stk} {p : Program} {loose : Heap → Prop} {mean : ExcName → Option Value} {mg mb : Str → Option Value} {A₀ : Around} {base : Heap} {outer : List Env} {fenv : Env} {dep : Nat}
variable {Φ : Phi} {Ψ : Psi}

/-- the made function and its cells, all laid aside -/
structure NestD (h₀ : Heap) (fz : Led) (f : Addr) (ds : List Int) (n : Nat) (qual : Str) (cl : List (Str × Addr)) (c' : Addr) (doc pm ct : Value) : Prop where
  fn : (f, fnMade (Str.ofString "inner") qual inD.params inD.body inD.scope cl doc pm c' ct) ∈ fz
  code : ∃ oc vs t, (c', oc) ∈ fz ∧ oc.data = .fields vs ∧ vs[1]? = some (.str qual t)
  cn : ∃ c o t, cl.lookup (Str.ofString "n") = some c ∧ (c, o) ∈ fz ∧ o.data = .cell (some (.int n t))
  cd : ∃ c o v, cl.lookup (Str.ofString "digits") = some c ∧ (c, o) ∈ fz ∧ o.data = .cell (some v) ∧ Rep h₀ fz v (zl ds)
  ci : ∃ c o, cl.lookup (Str.ofString "inner") = some c ∧ (c, o) ∈ fz ∧ o.data = .cell (some (.ref f))

theorem NestD.sub {h₀ h₁ : Heap} {fz fz' : Led} {f : Addr} {ds : List Int} {n : Nat} {qual : Str} {cl : List (Str × Addr)} {c' : Addr} {doc pm ct : Value} (hh : ∀ a o, h₀.get? a = some o → h₁.get? a = some o) (hz : ∀ q ∈ fz, q ∈ fz') (N : NestD h₀ fz f ds n qual cl c' doc pm ct) : NestD h₁ fz' f ds n qual cl c' doc pm ct where
  fn := hz _ N.fn
  code := let ⟨oc, vs, t, a, b, c⟩ := N.code; ⟨oc, vs, t, hz _ a, b, c⟩
  cn := let ⟨c, o, t, a, b, d⟩ := N.cn; ⟨c, o, t, a, hz _ b, d⟩
  cd := let ⟨c, o, v, a, b, d, r⟩ := N.cd; ⟨c, o, v, a, hz _ b, d, r.mono fun _ _ _ z => z.imp (hh _ _) (hz _)⟩
  ci := let ⟨c, o, a, b, d⟩ := N.ci; ⟨c, o, a, hz _ b, d⟩

theorem envX_ok {qual : Str} {sc : Scope} {L' f : Addr} {cdv : Value} {cl : List (Str × Addr)} {up : List (Addr × (Str → Option Value))} (hk : sc.kind = .function) (hc : ∀ x, sc.names.lookup x ≠ some .cell) : FE (envX qual sc L' f cdv cl) ⟨L', up⟩ :=
  ⟨⟨rfl, rfl, hk, fun x hx => absurd hx (hc x)⟩, rfl⟩

theorem off_of {g h : Heap} {L' : Stk} {m' : Str → Option Value} {fx' fix add fz : Led} (G : Lg g L' m' (fx' ++ fix) (add ++ fz) h) (ho : Off add fz) : Off add (fix ++ fz) := fun q hq r hr => by
  rcases List.mem_append.mp hr with hr | hr
  · exact (G.dj r (List.mem_append_right _ hr) q (List.mem_append_left _ hq)).symm
  · exact ho q hq r hr

theorem call_local {env : Env} {ρ : Rho} {x : Str} {xp cp : Pos} {es : List Expr} {q : List D} {f : Addr} {fo : Obj} {fd : FuncData} {m : Str → Option Value} {fix fz : Led} {s : Shared} {E Q : Value → Shared → Prop} {A : Around}
    (X : Fx p loose mean mg mb A₀ A base h₀ outer fenv L dep) (Γ : Gx prog w p loose mean mg mb Φ dep) (O : EnvOk env) (hdb : (x == ("__debug__" : Str)) = false) (hload : ∀ {Q : Value → Shared → Prop}, Q (.ref f) s → wpAny (model prog w) A (loadName env x) Q E s)
    (hf : (f, fo) ∈ fix ++ fz) (hfd : fo.data = .func fd) (he : Ev Φ env.scope.names ρ (.S es q true)) (G : Lg h₀ L m fix fz s.heap) (H : RhoOk h₀ L m fix fz env ρ)
    (h : ∀ vs h1 tk1 add1, Lg h₀ L m fix (add1 ++ fz) h1 → Off add1 (fix ++ fz) → Reps h₀ (add1 ++ fz) vs q → wpAny (model prog w) A (call (.ref f) vs) Q E { s with heap := h1, toks := tk1 }) :
    wpAny (model prog w) A (eval (.Call (.Name x xp) es [] cp) env) Q E s := by
  obtain ⟨hs, I⟩ : EvsOk prog w A h₀ L env ρ es (q, true) := ev_sound X Γ he O rfl
  refine Call_Name_ (wpAny_Name (hload ?_) hdb)
  refine callWith_function (o := fo) (evalArgs_all hs (I cp m _ fz s _ _ G H fun vs h1 tk1 add1 G1 ho1 hr1 => ⟨⟨G1.zAll (.inr ?_), hfd⟩, h vs h1 tk1 add1 G1 ho1 hr1⟩))
  rcases List.mem_append.mp hf with hf | hf
  · exact List.mem_append_left _ hf
  · exact List.mem_append_right _ (List.mem_append_right _ hf)

theorem reps_ii {h₀ : Heap} {fz : Led} {vs : List Value} {a b : Int} (h : Reps h₀ fz vs [.int a, .int b]) : ∃ t u, vs = [.int a t, .int b u] := by
  cases h with
  | cons ha h =>
    cases h with
    | cons hb h => cases h; cases ha; cases hb; exact ⟨_, _, rfl⟩
theorem reps_iii {h₀ : Heap} {fz : Led} {vs : List Value} {a b c : Int} (h : Reps h₀ fz vs [.int a, .int b, .int c]) : ∃ t u v, vs = [.int a t, .int b u, .int c v] := by
  cases h with
  | cons ha h =>
    obtain ⟨u, v, rfl⟩ := reps_ii h
    cases ha
    exact ⟨_, _, _, rfl⟩
theorem two_of {α : Type} : ∀ {l : List α}, l.length = 2 → ∃ a b, l = [a, b]
  | [a, b], _ => ⟨a, b, rfl⟩
theorem fdiv_half (l r : Nat) : ((l : Int) + r).fdiv 2 = ((l + r) / 2 : Nat) := by
  rw [Int.fdiv_eq_ediv_of_nonneg _ (by decide)]
  (first | lia | omega)

theorem inD_al {g : Heap} {fz : Led} {qual : Str} {cl : List (Str × Addr)} {c' L' f : Addr} {doc pm ct : Value} {ds : List Int} {n l r : Nat} {t u : Tok} {m : Str → Option Value} (N : NestD g fz f ds n qual cl c' doc pm ct)
    (hm : m = fun y => [(Str.ofString "L", Value.int l t), (Str.ofString "R", Value.int r u)].reverse.lookup y) :
    Al g fz (envX qual inD.scope L' f (.ref c') cl) m (dρ ds n l r .unset .unset) [] := by
  subst hm
  refine ⟨show List.Nodup [Str.ofString "L", Str.ofString "R", Str.ofString "mid", Str.ofString "shift", Str.ofString "digits", Str.ofString "n"] by decide +kernel, ?_⟩
  obtain ⟨c1, o1, t1, a1, b1, d1⟩ := N.cn
  obtain ⟨c2, o2, v2, a2, b2, d2, r2⟩ := N.cd
  refine .cons (l := []) (by decide +kernel) ⟨rfl, rfl, _, rfl, .int _ _⟩ ?_
  refine .cons (l := []) (by decide +kernel) ⟨rfl, rfl, _, rfl, .int _ _⟩ ?_
  refine .cons (l := []) (by decide +kernel) ⟨rfl, rfl⟩ ?_
  refine .cons (l := []) (by decide +kernel) ⟨rfl, rfl⟩ ?_
  refine .cons (l := []) (by decide +kernel) ⟨rfl, .inl rfl, by decide +kernel, c2, o2, v2, a2, b2, d2, r2⟩ ?_
  refine .cons (l := []) (by decide +kernel) ⟨rfl, .inl rfl, by decide +kernel, c1, o1, _, a1, b1, d1, .int _ _⟩ ?_
  exact .nil

theorem inD_body : inD.body = [stAt inD.body 0, stAt inD.body 1, stAt inD.body 2, stAt inD.body 3] := rfl
theorem inD_cells : ∀ x, inD.scope.names.lookup x ≠ some .cell := by
  intro x hx
  have := mem_of_lookup' hx
  rw [inD_names] at this
  simp at this

theorem pow2_le {a b : Nat} (h : a ≤ b) : (2 : Int) ^ a ≤ 2 ^ b := by exact_mod_cast Nat.pow_le_pow_right (by decide) h

theorem inD_base (Γ : Gx prog w p loose mean mg mb (fun _ _ => none) 0) (ΓO : GxO prog w p loose mean mg mb (fun _ _ => none) 0) {ds : List Int} {n : Nat} {qual : Str} {cl : List (Str × Addr)} {c' f : Addr} {doc pm ct : Value} (hn : n * ds.length ≤ 7000) (hds : ∀ x ∈ ds, 0 ≤ x ∧ x < 2 ^ n) {d : Nat} {A₀ A : Around} {base h₀ : Heap} {outer : List Env} {fenv : Env} {L : Stk} {m : Str → Option Value} {fix fz : Led} {s : Shared} {Q E : Value → Shared → Prop} {l r : Nat} {vs : List Value} (hb : l + 1 = r) :
      Fx p loose mean mg mb A₀ A base h₀ outer fenv L (d + 1) → Lg h₀ L m fix fz s.heap → NestD h₀ fz f ds n qual cl c' doc pm ct → l < r → r ≤ ds.length → r - l ≤ 2 ^ d → Reps h₀ fz vs [.int l, .int r] →
      Post h₀ L m fix fz s (fun fz' v => Rep h₀ fz' v (.int (d2i n (seg ds l r)))) Q → wpAny (model prog w) A (call (.ref f) vs) Q E s := by
  intro X G N hlr hr hd hvs P
  obtain ⟨oc, cvs, tk, hoc, hvd, hcv⟩ := N.code
  obtain ⟨t, u, rfl⟩ := reps_ii hvs
  refine wpAny_call (my_callF2 X G (G.z (.inr N.fn)) rfl ⟨c', oc, cvs, tk, rfl, G.z (.inr hoc), hvd, hcv⟩ (binds := [(Str.ofString "L", .int l t), (Str.ofString "R", .int r u)]) (BindsTo.of_eq rfl) (locs rfl) (fun A' outer' K m₁ s₁ Q' E' FX LG hm B => ?_) (by decide))
  have Ng := N
  have FE' : FE (envX qual inD.scope K.a f (.ref c') cl) K := envX_ok rfl inD_cells
  have H0 := inD_al (L' := K.a) (l := l) (r := r) (t := t) (u := u) Ng hm
  rw [inD_body]
  subst hb
  refine wpAny_execs_cons (run_sound FX (Γ.mono' (Nat.zero_le _)) (ΓO.mono' (Nat.zero_le _)) FE' ((inD_s0 _ _ ds n l (by (first | lia | omega)))) _ [] fix fz _ _ _ H0 LG ?_)
  intro v h' tk' m' fx' add G' ho r'
  refine B _ h' tk' m' fx' fix (add ++ fz) G' fun LGc => P v h' tk' add LGc (off_of G' ho) ?_
  rw [seg_one (by (first | lia | omega))]
  simp only [d2i, Int.mul_zero, Int.add_zero]
  exact r'.atom rfl
theorem inD_call (Γ : Gx prog w p loose mean mg mb (fun _ _ => none) 0) (ΓO : GxO prog w p loose mean mg mb (fun _ _ => none) 0) {ds : List Int} {n : Nat} {qual : Str} {cl : List (Str × Addr)} {c' f : Addr} {doc pm ct : Value} (hn : n * ds.length ≤ 7000) (hds : ∀ x ∈ ds, 0 ≤ x ∧ x < 2 ^ n) :
    ∀ (d : Nat) {A₀ A : Around} {base h₀ : Heap} {outer : List Env} {fenv : Env} {L : Stk} {m : Str → Option Value} {fix fz : Led} {s : Shared} {Q E : Value → Shared → Prop} {l r : Nat} {vs : List Value},
      Fx p loose mean mg mb A₀ A base h₀ outer fenv L (d + 1) → Lg h₀ L m fix fz s.heap → NestD h₀ fz f ds n qual cl c' doc pm ct → l < r → r ≤ ds.length → r - l ≤ 2 ^ d → Reps h₀ fz vs [.int l, .int r] →
      Post h₀ L m fix fz s (fun fz' v => Rep h₀ fz' v (.int (d2i n (seg ds l r)))) Q → wpAny (model prog w) A (call (.ref f) vs) Q E s := by
  intro d
  induction d with
  | zero =>
    intro A₀ A base h₀ outer fenv L m fix fz s Q E l r vs X G N hlr hr hd hvs P
    exact inD_base Γ ΓO hn hds (by simp at hd; (first | lia | omega)) X G N hlr hr hd hvs P
  | succ d ih =>
    intro A₀ A base h₀ outer fenv L m fix fz s Q E l r vs X G N hlr hr hd hvs P
    by_cases hb : l + 1 = r
    · exact inD_base Γ ΓO hn hds hb X G N hlr hr hd hvs P
    obtain ⟨oc, cvs, tk, hoc, hvd, hcv⟩ := N.code
    obtain ⟨t, u, rfl⟩ := reps_ii hvs
    refine wpAny_call (my_callF2 X G (G.z (.inr N.fn)) rfl ⟨c', oc, cvs, tk, rfl, G.z (.inr hoc), hvd, hcv⟩ (binds := [(Str.ofString "L", .int l t), (Str.ofString "R", .int r u)]) (BindsTo.of_eq rfl) (locs rfl) (fun A' outer' K m₁ s₁ Q' E' FX LG hm B => ?_) (by decide))
    have Ng := N
    have FE' : FE (envX qual inD.scope K.a f (.ref c') cl) K := envX_ok rfl inD_cells
    have H0 := inD_al (L' := K.a) (l := l) (r := r) (t := t) (u := u) Ng hm
    rw [inD_body]
    refine run_then (a := [_, _, _]) FX (Γ.mono' (Nat.zero_le _)) (ΓO.mono' (Nat.zero_le _)) FE' ⟨_, inD_s0' _ _ ds n l r (by (first | lia | omega)), _, inD_s1 _ _ ds n l r, _, inD_s2 _ _ ds n l r _ (by have := Nat.le_mul_of_pos_right n (show 0 < ds.length by (first | lia | omega)); (first | lia | omega)), rfl⟩ H0 LG ?_
    intro h3 tk3 m3 fx3 add3 G3 ho3 H3
    rw [fdiv_half] at H3
    generalize hmid : (l + r) / 2 = mid at H3
    refine wpAny_execs_cons ?_
    refine wpAny_Return_some (wpAny_BinOp (wpAny_BinOp ?_))
    have hm1 : l ≤ mid := by (first | lia | omega)
    have hm2 : mid ≤ r := by (first | lia | omega)
    have hp : 2 ^ (d + 1) = 2 ^ d * 2 := Nat.pow_succ ..
    have N3 : NestD h₀ (add3 ++ fz) f ds n qual cl c' doc pm ct := Ng.sub (fun _ _ e => e) fun q hq => List.mem_append_right _ hq
    obtain ⟨ci, oi, hci, hoi, hdi⟩ := N3.ci
    have R3 := H3.all.rho FE'.hl fix
    have load : ∀ {fzz : Led} {s1 : Shared} {E : Value → Shared → Prop} {Q : Value → Shared → Prop}, (∀ q ∈ add3 ++ fz, q ∈ fzz) → Lg h₀ K m3 (fx3 ++ fix) fzz s1.heap → Q (.ref f) s1 → wpAny (model prog w) A' (loadName (envX qual inD.scope K.a f (.ref c') cl) (Str.ofString "inner")) Q E s1 :=
      fun hs G h => wpAny_loadName_free rfl rfl hci ⟨_, G.z (.inr (hs _ hoi)), hdi⟩ h (by decide +kernel)
    refine call_local (q := [.int mid, .int r]) FX (Γ.mono' (Nat.zero_le _)) FE'.O (by decide +kernel) (load (fun _ h => h) G3) (List.mem_append_right _ N3.fn) rfl (by
      rw [inD_names]; walk_at "V") G3 R3 fun vs4 h4 tk4 add4 G4 ho4 hv4 => ?_
    have N4 := N3.sub (h₁ := h₀) (fun _ _ e => e) fun q hq => List.mem_append_right add4 hq
    refine ih FX G4 N4 (by (first | lia | omega)) hr (by (first | lia | omega)) hv4 fun v5 h5 tk5 add5 G5 ho5 hr5 => ?_
    have R5 := (R3.grow add4).grow add5
    refine evE FX (Γ.mono' (Nat.zero_le _)) (r := (.int (((mid : Nat) - (l : Int)) * n), true)) FE'.O (by show Ev _ inD.scope.names _ _; rw [inD_names]; walk_at "V") m3 _ _ _ _ _ G5 R5 fun v6 h6 tk6 add6 G6 ho6 hr6 => ?_
    cases hr5
    cases hr6
    have hsh : ((mid : Int) - l) * n = ((n * (mid - l) : Nat) : Int) := by
      rw [Nat.mul_comm, Int.natCast_mul]
      congr 1
      (first | lia | omega)
    have hb1 := d2i_lt n (seg ds mid r) fun x hx => hds x (seg_mem hx)
    have hb2 := d2i_lt n (seg ds l mid) fun x hx => hds x (seg_mem hx)
    rw [seg_len hr] at hb1
    have hnl : n * (mid - l) ≤ 7000 := Nat.le_trans (Nat.mul_le_mul_left n (by (first | lia | omega))) hn
    have hnr : n * (r - mid) ≤ 7000 := Nat.le_trans (Nat.mul_le_mul_left n (by (first | lia | omega))) hn
    have hbits : Builtin.Int.intBits (d2i n (seg ds mid r)) ≤ 8000 := by
      refine bits_of_log (of_decide_eq_true (log8_of ?_))
      have : (d2i n (seg ds mid r)).natAbs < 2 ^ (n * (r - mid)) := by
        have h1 := hb1.2
        have h2 : ((d2i n (seg ds mid r)).natAbs : Int) = d2i n (seg ds mid r) := Int.natAbs_of_nonneg hb1.1
        rw [← h2] at h1
        exact_mod_cast h1
      exact Nat.lt_of_lt_of_le this (Nat.pow_le_pow_right (by decide) (by (first | lia | omega)))
    refine lshift_int (by rw [hsh]; (first | lia | omega)) (by rw [hsh]; (first | lia | omega)) ?_
    refine call_local (q := [.int l, .int mid]) FX (Γ.mono' (Nat.zero_le _)) FE'.O (by decide +kernel) (load (fun q hq => List.mem_append_right _ (List.mem_append_right _ (List.mem_append_right _ hq))) G6) (List.mem_append_right _ (List.mem_append_right _ (List.mem_append_right _ N4.fn))) rfl (by
      rw [inD_names]; walk_at "V") G6 (R5.grow add6) fun vs7 h7 tk7 add7 G7 ho7 hv7 => ?_
    have N7 := N4.sub (h₁ := h₀) (fun _ _ e => e) fun q hq => List.mem_append_right add7 (List.mem_append_right add6 (List.mem_append_right add5 hq))
    refine ih FX G7 N7 (by (first | lia | omega)) (by (first | lia | omega)) (by (first | lia | omega)) hv7 fun v8 h8 tk8 add8 G8 ho8 hr8 => ?_
    cases hr8
    refine add_int ?_
    obtain ⟨e1, o1⟩ := (((((Grw.one ho3).f ho4).f ho5).f ho6).f ho7).f ho8
    rw [e1] at G8
    refine B _ h8 _ m3 fx3 fix _ G8 fun LGc => P _ h8 _ _ LGc (off_of G8 o1) ?_
    have hv : d2i n (seg ds mid r) * 2 ^ ((((mid : Nat) - (l : Int)) * n).toNat) + d2i n (seg ds l mid) = d2i n (seg ds l r) := by
      rw [seg_split hm1 hm2, d2i_append, seg_len (by (first | lia | omega)), hsh, Int.toNat_natCast, Int.mul_comm, Int.add_comm]
    rw [hv]
    exact .int _ _
end
end
section -- NB
/-- a def of the top that makes a function of its own -/
noncomputable def NestFn (mg : Str → Option Value) (r : DefRec) (c P : Addr) (h : Heap) : Prop :=
  ∃ a o pm doc, mg r.name = some (.ref a) ∧ h.get? a = some o ∧ o.data = .func (docDef r.name r.params r.body r.scope pm (.ref c) doc) ∧ h.CodeRec (.ref c) r.name ∧ CodeHd h c P

theorem fD2I_body : fD2I.body = [.FunctionDef (Str.ofString "inner") inD.params inD.body [] none [] inD.scope none (Str.ofString "inner") inD.pos, stAt fD2I.body 1] := rfl
theorem fD2I_names : fD2I.scope.names = [(Str.ofString "digits", .cell), (Str.ofString "n", .cell), (Str.ofString "inner", .cell), (Str.ofString "len", .globalImplicit)] := rfl
theorem fD2I_rho (ds : List Int) (n : Nat) : rho0 fD2I.scope [Str.ofString "digits", Str.ofString "n"] [zl ds, .int n] = [(Str.ofString "inner", .cel none), (Str.ofString "n", .cel (some (.int n))), (Str.ofString "digits", .cel (some (zl ds)))] := by
  unfold rho0 cellKeys localKeys
  rw [fD2I_names]
  simp [cellsFrom, List.lookup_cons, ofString_beq]

section
variable {prog : Program} {w : World} {p : Program} {loose : Heap → Prop} {mean : ExcName → Option Value} {mg mb : Str → Option Value}

theorem d2i_call (Γ : Gx prog w p loose mean mg mb (fun _ _ => none) 0) (ΓO : GxO prog w p loose mean mg mb (fun _ _ => none) 0) {c P : Addr} (hT : (P, Str.ofString "_digits2int.<locals>.inner") ∈ tabs) (hL : ∀ h, loose h → NestFn mg fD2I c P h)
    {ds : List Int} {n : Nat} (hn : n * ds.length ≤ 7000) (hds : ∀ x ∈ ds, 0 ≤ x ∧ x < 2 ^ n) (hlen : ds.length ≤ 4096) : ∀ fv, mg fD2I.name = some fv → CallOk prog w p loose mean mg mb 14 fv [zl ds, .int n] (.int (d2i n ds)) := by
  intro fv hfv A₀ A base h₀ outer fenv L m fix fz s vs Q E X G hvs P'
  obtain ⟨a, o, pm, doc, hmg, hob, hfd, hcd, hch⟩ := hL _ X.T.ex
  rw [hmg] at hfv
  cases hfv
  refine enter X G hob hfd hcd (xs := [Str.ofString "digits", Str.ofString "n"]) (by decide +kernel) (fun pm code doc vs hl => ?_) rfl hvs fun A' outer' K m₁ cells s₁ Q' E' FX FE' LG H0 B => ?_
  · obtain ⟨v1, v2, rfl⟩ := two_of hl
    rfl
  · rw [fD2I_rho] at H0
    rw [fD2I_body]
    obtain ⟨clos, hclos, hclc⟩ := closureFor_of (env := envOfC fD2I.name fD2I.scope K.a a (.ref c)) (sc := inD.scope) (by
      intro x hx e
      have : x ∈ [(Str.ofString "digits", NameKind.free), (Str.ofString "inner", .free), (Str.ofString "n", .free)] := by
        rw [inD_names] at hx
        simp only [List.mem_cons, List.not_mem_nil, or_false] at hx ⊢
        rcases hx with rfl | rfl | rfl | rfl | h <;> first | cases e | exact h
      simp only [List.mem_cons, List.not_mem_nil, or_false] at this
      rcases this with rfl | rfl | rfl <;> exact cellsFrom_some _ _ _ (.inl rfl))
    have hT' := FX.T.top
    obtain ⟨p', l', hTop⟩ := hT'
    have hch' : CodeHd h₀ c P := hch
    refine wpAny_execs_cons (nestDef_K rfl rfl rfl ?_)
    refine nest_make (cn := fD2I.name) (cs := fD2I.scope) (a := a) (cl := cellsFrom (K.a + 1) fD2I.scope.names []) LG hTop hT hch' hclos fun f c' ct doc' pm' h1 tk1 add1 oc cvs ctk G1 ho1 hfn hoc hvd hcv => ?_
    -- the name inner
    have H1 := H0.grow add1
    obtain ⟨_, q1, l1, q2, hfx, ⟨hk1, ci, oi, ovi, rfl, hci, hdi, _⟩, kk⟩ := H1.all.split (x := Str.ofString "inner") (sl := .cel none) H1.nd (by simp [List.lookup_cons, ofString_beq])
    subst hfx
    have e1 : q1 ++ ([(ci, oi)] ++ q2) ++ fix = q1 ++ (ci, oi) :: (q2 ++ fix) := by simp
    refine wpAny_storeName_cell (env := envOfC fD2I.name fD2I.scope K.a a (.ref c)) rfl hk1 hci ⟨oi, G1.fixed (by simp), hdi⟩ fun h2 hv2 hs2 => ?_
    obtain ⟨oi', hoi', hdi'⟩ := hv2
    have G2 : Lg h₀ K m₁ (q1 ++ (ci, oi') :: (q2 ++ fix)) (add1 ++ fz) h2 := Lg.replace (e1 ▸ G1) (fun b x hb ex => hs2.extBut b x hb ex) hoi'
    have A2 := kk _ _ (.cel none) [(ci, oi')] (fun _ _ => rfl) (fun _ h => h) ⟨hk1, ci, oi', _, rfl, hci, hdi', fun _ h => nomatch h⟩
    have hup : upd [(Str.ofString "inner", Slot.cel none), (Str.ofString "n", Slot.cel (some (.int n))), (Str.ofString "digits", Slot.cel (some (zl ds)))] (Str.ofString "inner") (.cel none) = [(Str.ofString "inner", Slot.cel none), (Str.ofString "n", Slot.cel (some (.int n))), (Str.ofString "digits", Slot.cel (some (zl ds)))] := by simp [upd]
    rw [hup] at A2
    obtain ⟨_, _, l3, _, hf3, ⟨_, cn, on, ovn, rfl, hcn, hdn, hvn⟩, _⟩ := A2.split (x := Str.ofString "n") H1.nd (by simp [List.lookup_cons, ofString_beq]; rfl)
    obtain ⟨_, _, l4, _, hf4, ⟨_, cd, od, ovd, rfl, hcd4, hdd, hvd4⟩, _⟩ := A2.split (x := Str.ofString "digits") H1.nd (by simp [List.lookup_cons, ofString_beq]; rfl)
    obtain ⟨G3, ho3⟩ := Lg.freezes (a := q1 ++ ([(ci, oi')] ++ q2)) (b := fix) (G2.cast (by simp))
    have hz2 : ∀ q ∈ add1 ++ fz, q ∈ (q1 ++ ([(ci, oi')] ++ q2)) ++ (add1 ++ fz) := fun q hq => List.mem_append_right _ hq
    generalize hK : q1 ++ ([(ci, oi')] ++ q2) = Kq at G3 ho3 hz2 hf3 hf4
    have mi : (ci, oi') ∈ Kq := by rw [← hK]; simp
    have mn : (cn, on) ∈ Kq := by rw [hf3]; simp
    have md : (cd, od) ∈ Kq := by rw [hf4]; simp
    obtain ⟨vn, hvn1, hvn2⟩ := hvn _ rfl
    obtain ⟨vd, hvd1, hvd2⟩ := hvd4 _ rfl
    cases hvn2
    have ND : NestD h₀ (Kq ++ (add1 ++ fz)) f ds n (Str.ofString "_digits2int.<locals>.inner") clos c' doc' pm' ct := by
      refine ⟨hz2 _ (List.mem_append_left _ hfn), ⟨oc, cvs, ctk, hz2 _ hoc, hvd, hcv⟩, ⟨cn, on, _, hclc _ _ hcn (by rw [inD_names]; simp), List.mem_append_left _ mn, by rw [hdn, hvn1]⟩,
        ⟨cd, od, vd, hclc _ _ hcd4 (by rw [inD_names]; simp), List.mem_append_left _ md, by rw [hdd, hvd1], hvd2.sub hz2⟩, ⟨ci, oi', hclc _ _ hci (by rw [inD_names]; simp), List.mem_append_left _ mi, hdi'⟩⟩
    have R3 : RhoOk h₀ K m₁ fix (Kq ++ (add1 ++ fz)) (envOfC fD2I.name fD2I.scope K.a a (.ref c)) [(Str.ofString "digits", .fre (zl ds))] := by
      intro x sl hx
      simp only [List.lookup_cons, List.lookup_nil] at hx
      split at hx
      · rename_i hb
        cases hx
        rw [eq_of_beq hb]
        exact ⟨by decide +kernel, .inr rfl, by decide +kernel, cd, od, vd, hcd4, List.mem_append_left _ md, by rw [hdd, hvd1], hvd2.sub hz2⟩
      · cases hx
    refine wpAny_execs_cons (wpAny_Return_some (IfExp_ ?_))
    refine Mine.evT FX (Γ.mono' (Nat.zero_le _)) (r := !ds.isEmpty) (ρ := [(Str.ofString "digits", .fre (zl ds))]) FE'.O ?_ _ _ _ _ _ _ G3 R3 fun b h4 tk4 add4 G4 ho4 hb4 => ?_
    · show Ev _ fD2I.scope.names _ _
      rw [fD2I_names]
      cases ds <;> walk_at "V"
    subst hb4
    have gr := ((Grw.one (off_fz ho1)).z (off_fz ho3)).f ho4
    cases hds0 : ds.isEmpty with
    | true =>
      have : ds = [] := List.isEmpty_iff.mp hds0
      subst this
      refine wpAny_Constant_int ?_
      obtain ⟨e5, o5⟩ := gr
      rw [e5] at G4
      exact B _ h4 _ _ [] fix _ G4 fun LGc => P' _ h4 _ _ LGc (off_of (fx' := []) G4 o5) (.int _ _)
    | false =>
      have hpos : 0 < ds.length := by cases ds with
        | nil => cases hds0
        | cons => simp
      refine call_local (q := [.int ((0 : Nat) : Int), .int ds.length]) FX (Γ.mono' (Nat.zero_le _)) FE'.O (by decide +kernel) (fun h => wpAny_loadName_cell rfl rfl hci ⟨oi', G4.z (.inr (List.mem_append_right _ (List.mem_append_left _ mi))), hdi'⟩ h) (List.mem_append_right _ (List.mem_append_right _ ND.fn)) rfl (by
        show Ev _ fD2I.scope.names _ _
        rw [fD2I_names]; walk_at "V") G4 (R3.grow add4) fun vs5 h5 tk5 add5 G5 ho5 hv5 => ?_
      have N5 := ND.sub (h₁ := h₀) (fun _ _ e => e) fun q hq => List.mem_append_right add5 (List.mem_append_right add4 hq)
      refine inD_call Γ ΓO hn hds 12 FX G5 N5 hpos (Nat.le_refl _) (by simpa using hlen) hv5 fun v6 h6 tk6 add6 G6 ho6 hr6 => ?_
      obtain ⟨e5, o5⟩ := (gr.f ho5).f ho6
      rw [e5] at G6
      refine B _ h6 _ _ [] fix _ G6 fun LGc => P' _ h6 _ _ LGc (off_of (fx' := []) G6 o5) ?_
      · have : seg ds 0 ds.length = ds := by simp [seg]
        rw [this] at hr6
        exact hr6.atom rfl
end
end
section -- NC
/-! ## the digits of a number -/
noncomputable def digs (n : Nat) : Nat → Int → List Int
  | 0, _ => []
  | k + 1, x => x % 2 ^ n :: digs n k (x / 2 ^ n)
theorem digs_len (n : Nat) : ∀ (k : Nat) (x : Int), (digs n k x).length = k
  | 0, _ => rfl
  | k + 1, x => by simp [digs, digs_len n k]
theorem pow_pos' (n : Nat) : (0 : Int) < 2 ^ n := Int.pow_pos (by decide)
theorem digs_mem (n : Nat) : ∀ (k : Nat) (x : Int), ∀ d ∈ digs n k x, 0 ≤ d ∧ d < 2 ^ n
  | 0, _, d, h => by cases h
  | k + 1, x, d, h => by
    rcases List.mem_cons.mp h with rfl | h
    · exact ⟨Int.emod_nonneg _ (Int.ne_of_gt (pow_pos' n)), Int.emod_lt_of_pos _ (pow_pos' n)⟩
    · exact digs_mem n k _ d h
theorem digs_add (n : Nat) : ∀ (a b : Nat) (x : Int), digs n (a + b) x = digs n a x ++ digs n b (x / 2 ^ (n * a))
  | 0, b, x => by simp [digs]
  | a + 1, b, x => by
    rw [show a + 1 + b = (a + b) + 1 by (first | lia | omega)]
    simp only [digs, List.cons_append, digs_add n a b]
    rw [Int.ediv_ediv_of_nonneg (Int.le_of_lt (pow_pos' n)), ← Int.pow_add, Nat.mul_add, Nat.mul_one, Nat.add_comm n]
theorem digs_mod (n : Nat) : ∀ (a : Nat) (x : Int), digs n a (x % 2 ^ (n * a)) = digs n a x
  | 0, x => rfl
  | a + 1, x => by
    have e : (2 : Int) ^ (n * (a + 1)) = 2 ^ n * 2 ^ (n * a) := by rw [Nat.mul_add, Nat.mul_one, Nat.add_comm, Int.pow_add]
    simp only [digs]
    congr 1
    · rw [e, Int.emod_emod_of_dvd _ (Int.dvd_mul_right ..)]
    · rw [e, ← digs_mod n a (x / 2 ^ n)]
      congr 1
      have h1 := Int.emod_def x (2 ^ n * 2 ^ (n * a))
      have h2 : x / 2 ^ n / 2 ^ (n * a) = x / (2 ^ n * 2 ^ (n * a)) := Int.ediv_ediv_of_nonneg (Int.le_of_lt (pow_pos' n))
      rw [h1, Int.emod_def (x / 2 ^ n), h2, Int.mul_assoc, Int.sub_mul_ediv_left _ _ (Int.ne_of_gt (pow_pos' n))]
theorem d2i_digs (n : Nat) : ∀ (k : Nat) (x : Int), 0 ≤ x → x < 2 ^ (n * k) → d2i n (digs n k x) = x
  | 0, x, h0, h1 => by simp at h1; simp [digs, d2i]; (first | lia | omega)
  | k + 1, x, h0, h1 => by
    simp only [digs, d2i]
    rw [d2i_digs n k (x / 2 ^ n) (Int.ediv_nonneg h0 (Int.le_of_lt (pow_pos' n))) ?_]
    · have := Int.emod_add_mul_ediv x (2 ^ n); (first | lia | omega)
    · refine Int.ediv_lt_of_lt_mul (pow_pos' n) ?_
      rw [← Int.pow_add]
      have : n * k + n = n * (k + 1) := by rw [Nat.mul_add, Nat.mul_one]
      rw [this]; exact h1
theorem xor_low (x s : Nat) : Nat.xor x (x / 2 ^ s * 2 ^ s) = x % 2 ^ s := by
  apply Nat.eq_of_testBit_eq
  intro i
  show (x ^^^ (x / 2 ^ s * 2 ^ s)).testBit i = _
  rw [Nat.testBit_xor, Nat.testBit_mod_two_pow, ← Nat.shiftRight_eq_div_pow, ← Nat.shiftLeft_eq, Nat.testBit_shiftLeft, Nat.testBit_shiftRight]
  by_cases h : i < s
  · simp [h, Nat.not_le.mpr h]
  · have h' : s ≤ i := Nat.le_of_not_lt h
    simp [h, h', Nat.add_sub_cancel' h']

/-- some places of a row, set -/
noncomputable def putAt (zs : List Int) (l : Nat) (ds : List Int) : List Int := zs.take l ++ ds ++ zs.drop (l + ds.length)
theorem putAt_len {zs : List Int} {l : Nat} {ds : List Int} (h : l + ds.length ≤ zs.length) : (putAt zs l ds).length = zs.length := by simp [putAt]; (first | lia | omega)
theorem putAt_two {zs : List Int} {l : Nat} {a b : List Int} (h : l + a.length + b.length ≤ zs.length) : putAt (putAt zs l a) (l + a.length) b = putAt zs l (a ++ b) := by
  unfold putAt
  have e1 : (zs.take l ++ a ++ zs.drop (l + a.length)).take (l + a.length) = zs.take l ++ a := by
    rw [List.take_append_of_le_length (by simp; (first | lia | omega)), List.take_of_length_le (by simp; (first | lia | omega))]
  have e2 : (zs.take l ++ a ++ zs.drop (l + a.length)).drop (l + a.length + b.length) = zs.drop (l + (a ++ b).length) := by
    rw [List.drop_append, List.drop_of_length_le (by simp; (first | lia | omega)), List.nil_append, List.drop_drop]
    congr 1
    simp; (first | lia | omega)
  rw [e1, e2]
  simp
theorem putAt_one {zs : List Int} {l : Nat} {x : Int} (h : l < zs.length) : putAt zs l [x] = zs.set l x := by
  unfold putAt
  rw [List.set_eq_take_append_cons_drop, if_pos h]
  simp
theorem putAt_all {zs ds : List Int} (h : zs.length = ds.length) : putAt zs 0 ds = ds := by
  unfold putAt; rw [List.drop_of_length_le (by (first | lia | omega))]; simp
end
section -- ND
noncomputable def fI2D : DefRec := fnIx pw 6
noncomputable def inI : DefRec := nestAt fI2D.body 1

theorem bitXor_low (x s : Nat) : Builtin.bitXor x (((x : Int).fdiv (2 ^ s)) * 2 ^ s) = x % 2 ^ s := by
  have hf : (x : Int).fdiv (2 ^ s) = ((x / 2 ^ s : Nat) : Int) := by
    rw [Int.fdiv_eq_ediv_of_nonneg _ (Int.le_of_lt (pow_pos' s))]
    rw [Int.natCast_ediv, Int.natCast_pow]; rfl
  have he : (x : Int).fdiv (2 ^ s) * 2 ^ s = ((x / 2 ^ s * 2 ^ s : Nat) : Int) := by
    rw [hf, Int.natCast_mul, Int.natCast_pow]; rfl
  rw [he]
  have hor : x ||| (x / 2 ^ s * 2 ^ s) = x := by
    apply Nat.eq_of_testBit_eq
    intro i
    rw [Nat.testBit_or, ← Nat.shiftRight_eq_div_pow, ← Nat.shiftLeft_eq, Nat.testBit_shiftLeft, Nat.testBit_shiftRight]
    by_cases h : s ≤ i
    · simp [h, Nat.add_sub_cancel' h]
    · simp [h]
  have hand : x &&& (x / 2 ^ s * 2 ^ s) = x / 2 ^ s * 2 ^ s := by
    apply Nat.eq_of_testBit_eq
    intro i
    rw [Nat.testBit_and, ← Nat.shiftRight_eq_div_pow, ← Nat.shiftLeft_eq, Nat.testBit_shiftLeft, Nat.testBit_shiftRight]
    by_cases h : s ≤ i
    · simp [h, Nat.add_sub_cancel' h]
    · simp [h]
  have hA : ∀ a b : Nat, Builtin.bitAnd a b = ((a &&& b : Nat) : Int) := fun a b => by
    unfold Builtin.bitAnd
    simp
  have hN : ∀ a : Nat, decide (0 ≤ Builtin.bitNot (a : Int)) = false := fun a => by
    unfold Builtin.bitNot; exact decide_eq_false (by (first | lia | omega))
  have hNN : ∀ a : Int, Builtin.bitNot (Builtin.bitNot a) = a := fun a => by unfold Builtin.bitNot; (first | lia | omega)
  have hO : ∀ a b : Nat, Builtin.bitOr a b = ((a ||| b : Nat) : Int) := fun a b => by
    unfold Builtin.bitOr
    rw [show Builtin.bitAnd (Builtin.bitNot a) (Builtin.bitNot b) = Builtin.bitNot ↑((Builtin.bitNot (Builtin.bitNot a)).toNat ||| (Builtin.bitNot (Builtin.bitNot b)).toNat) by
      conv => lhs; unfold Builtin.bitAnd
      rw [hN a, hN b], hNN, hNN, hNN]
    simp
  unfold Builtin.bitXor
  rw [hO, hA, hor, hand]
  have := Nat.div_add_mod x (2 ^ s)
  rw [Nat.mul_comm] at this
  have h2 : ((x / 2 ^ s * 2 ^ s + x % 2 ^ s : Nat) : Int) = (x : Int) := by rw [this]
  rw [Int.natCast_add] at h2
  have h3 : ((x % 2 ^ s : Nat) : Int) = (x : Int) % 2 ^ s := by rw [Int.natCast_emod, Int.natCast_pow]; rfl
  (first | lia | omega)

/-! ## the inner function of _int2digits -/
noncomputable abbrev iρ (n : Nat) (x l r : Int) (mid sh up lw : Slot) : Rho :=
  [(Str.ofString "x", .val (.int x)), (Str.ofString "L", .val (.int l)), (Str.ofString "R", .val (.int r)), (Str.ofString "mid", mid), (Str.ofString "shift", sh), (Str.ofString "upper", up), (Str.ofString "lower", lw), (Str.ofString "n", .fre (.int n))]
theorem inI_names : inI.scope.names = [(Str.ofString "x", .local), (Str.ofString "L", .local), (Str.ofString "R", .local), (Str.ofString "mid", .local), (Str.ofString "shift", .local), (Str.ofString "upper", .local), (Str.ofString "lower", .local), (Str.ofString "a_digits", .free), (Str.ofString "inner", .free), (Str.ofString "n", .free)] := rfl
theorem inI_body : inI.body = [stAt inI.body 0, stAt inI.body 1, stAt inI.body 2, stAt inI.body 3, stAt inI.body 4, stAt inI.body 5, stAt inI.body 6] := rfl

theorem inI_s0 (Φ : Phi) (Ψ : Psi) (n : Nat) (x l r : Int) (h : l + 1 ≠ r) : Run Φ Ψ inI.scope.names (.S (stAt inI.body 0)) (iρ n x l r .unset .unset .unset .unset)
      (iρ n x l r .unset .unset .unset .unset) .next := by
  conv => arg 3; whnf
  conv => arg 4; arg 1; whnf
  walk_at "R"
theorem inI_s1 (Φ : Phi) (Ψ : Psi) (n : Nat) (x l r : Int) : Run Φ Ψ inI.scope.names (.S (stAt inI.body 1)) (iρ n x l r .unset .unset .unset .unset)
      (iρ n x l r (.val (.int ((l + r).fdiv 2))) .unset .unset .unset) .next := by
  conv => arg 3; whnf
  conv => arg 4; arg 1; whnf
  walk_at "R"
theorem inI_s2 (Φ : Phi) (Ψ : Psi) (n : Nat) (x l r mid : Int) (hn : n < 2 ^ 60) : Run Φ Ψ inI.scope.names (.S (stAt inI.body 2)) (iρ n x l r (.val (.int mid)) .unset .unset .unset)
      (iρ n x l r (.val (.int mid)) (.val (.int ((mid - l) * n))) .unset .unset) .next := by
  conv => arg 3; whnf
  conv => arg 4; arg 1; whnf
  have hf : mulFit (mid - l) n = true := by unfold mulFit; rw [log60_of (x := (n : Int)) (by (first | lia | omega))]; simp
  walk_at "R"
theorem inI_s3 (Φ : Phi) (Ψ : Psi) (n : Nat) (x l r mid : Int) (sh : Nat) : Run Φ Ψ inI.scope.names (.S (stAt inI.body 3)) (iρ n x l r (.val (.int mid)) (.val (.int sh)) .unset .unset)
      (iρ n x l r (.val (.int mid)) (.val (.int sh)) (.val (.int (x.fdiv (2 ^ sh)))) .unset) .next := by
  conv => arg 3; whnf
  conv => arg 4; arg 1; whnf
  walk_at "R"
theorem inI_s4 (Φ : Phi) (Ψ : Psi) (n : Nat) (x l r mid up : Int) (sh : Nat) (h1 : sh ≤ 100000) (h2 : log8 up = true) : Run Φ Ψ inI.scope.names (.S (stAt inI.body 4)) (iρ n x l r (.val (.int mid)) (.val (.int sh)) (.val (.int up)) .unset)
      (iρ n x l r (.val (.int mid)) (.val (.int sh)) (.val (.int up)) (.val (.int (Builtin.bitXor x (up * 2 ^ sh))))) .next := by
  conv => arg 3; whnf
  conv => arg 4; arg 1; whnf
  have h3 : ((sh : Int) ≤ 100000) := by (first | lia | omega)
  walk_at "R"
end
section -- NE
section
variable {prog : Program} {w : World} {A : Around} {h₀ : Heap} {L : Stk} {p : Program} {loose : Heap → Prop} {mean : ExcName → Option Value} {mg mb : Str → Option Value} {A₀ : Around} {base : Heap} {outer : List Env} {fenv : Env} {dep : Nat}

structure NestI (fz : Led) (f a : Addr) (n : Nat) (qual : Str) (cl : List (Str × Addr)) (c' : Addr) (doc pm ct : Value) : Prop where
  fn : (f, fnMade (Str.ofString "inner") qual inI.params inI.body inI.scope cl doc pm c' ct) ∈ fz
  code : ∃ oc vs t, (c', oc) ∈ fz ∧ oc.data = .fields vs ∧ vs[1]? = some (.str qual t)
  cn : ∃ c o t, cl.lookup (Str.ofString "n") = some c ∧ (c, o) ∈ fz ∧ o.data = .cell (some (.int n t))
  ca : ∃ c o, cl.lookup (Str.ofString "a_digits") = some c ∧ (c, o) ∈ fz ∧ o.data = .cell (some (.ref a))
  ci : ∃ c o, cl.lookup (Str.ofString "inner") = some c ∧ (c, o) ∈ fz ∧ o.data = .cell (some (.ref f))
theorem NestI.sub {fz fz' : Led} {f a : Addr} {n : Nat} {qual : Str} {cl : List (Str × Addr)} {c' : Addr} {doc pm ct : Value} (hz : ∀ q ∈ fz, q ∈ fz') (N : NestI fz f a n qual cl c' doc pm ct) : NestI fz' f a n qual cl c' doc pm ct where
  fn := hz _ N.fn
  code := let ⟨oc, vs, t, a, b, c⟩ := N.code; ⟨oc, vs, t, hz _ a, b, c⟩
  cn := let ⟨c, o, t, a, b, d⟩ := N.cn; ⟨c, o, t, a, hz _ b, d⟩
  ca := let ⟨c, o, a, b, d⟩ := N.ca; ⟨c, o, a, hz _ b, d⟩
  ci := let ⟨c, o, a, b, d⟩ := N.ci; ⟨c, o, a, hz _ b, d⟩

theorem inI_al {g : Heap} {fz : Led} {qual : Str} {cl : List (Str × Addr)} {c' L' f a : Addr} {doc pm ct : Value} {n : Nat} {x : Int} {l r : Nat} {t u v : Tok} {m : Str → Option Value} (N : NestI fz f a n qual cl c' doc pm ct)
    (hm : m = fun y => [(Str.ofString "x", Value.int x t), (Str.ofString "L", Value.int l u), (Str.ofString "R", Value.int r v)].reverse.lookup y) :
    Al g fz (envX qual inI.scope L' f (.ref c') cl) m (iρ n x l r .unset .unset .unset .unset) [] := by
  subst hm
  refine ⟨show List.Nodup [Str.ofString "x", Str.ofString "L", Str.ofString "R", Str.ofString "mid", Str.ofString "shift", Str.ofString "upper", Str.ofString "lower", Str.ofString "n"] by decide +kernel, ?_⟩
  obtain ⟨c1, o1, t1, a1, b1, d1⟩ := N.cn
  refine .cons (l := []) (by decide +kernel) ⟨rfl, rfl, _, rfl, .int _ _⟩ ?_
  refine .cons (l := []) (by decide +kernel) ⟨rfl, rfl, _, rfl, .int _ _⟩ ?_
  refine .cons (l := []) (by decide +kernel) ⟨rfl, rfl, _, rfl, .int _ _⟩ ?_
  refine .cons (l := []) (by decide +kernel) ⟨rfl, rfl⟩ ?_
  refine .cons (l := []) (by decide +kernel) ⟨rfl, rfl⟩ ?_
  refine .cons (l := []) (by decide +kernel) ⟨rfl, rfl⟩ ?_
  refine .cons (l := []) (by decide +kernel) ⟨rfl, rfl⟩ ?_
  refine .cons (l := []) (by decide +kernel) ⟨rfl, .inl rfl, by decide +kernel, c1, o1, _, a1, b1, d1, .int _ _⟩ ?_
  exact .nil
theorem inI_cells : ∀ x, inI.scope.names.lookup x ≠ some .cell := by
  intro x hx
  have := mem_of_lookup' hx
  rw [inI_names] at this
  simp at this

theorem zs_set {h₀ : Heap} {fz : Led} {ys : List Value} {zs : List Int} (h : Reps h₀ fz ys (zs.map .int)) (l : Nat) (x : Int) (t : Tok) : Reps h₀ fz (ys.set l (.int x t)) ((zs.set l x).map .int) := by
  rw [List.map_set]; exact h.set l (.int _ _)

theorem inI_base (Γ : Gx prog w p loose mean mg mb (fun _ _ => none) 0) (ΓO : GxO prog w p loose mean mg mb (fun _ _ => none) 0) {n : Nat} {qual : Str} {cl : List (Str × Addr)} {c' f a : Addr} {doc pm ct : Value} {len : Nat} (hn : n * len ≤ 7000) (hlen : len ≤ line24) {d : Nat} {A₀ A : Around} {base h₀ : Heap} {outer : List Env} {fenv : Env} {L : Stk} {m : Str → Option Value} {p1 p2 fz : Led} {s : Shared} {Q E : Value → Shared → Prop} {x : Int} {l r k : Nat} {vs ys : List Value} {zs : List Int} (hb : l + 1 = r) :
      Fx p loose mean mg mb A₀ A base h₀ outer fenv L (d + 1) → Lg h₀ L m (p1 ++ (a, lo ys k) :: p2) fz s.heap → NestI fz f a n qual cl c' doc pm ct → l < r → r ≤ zs.length → zs.length = len → r - l ≤ 2 ^ d → 0 ≤ x → x < 2 ^ (n * (r - l)) → Reps h₀ fz vs [.int x, .int l, .int r] → Reps h₀ fz ys (zs.map .int) →
      (∀ ys' k' h' tk' add, Lg h₀ L m (p1 ++ (a, lo ys' k') :: p2) (add ++ fz) h' → Off add fz → Reps h₀ (add ++ fz) ys' ((putAt zs l (digs n (r - l) x)).map .int) → Q .none { s with heap := h', toks := tk' }) →
      wpAny (model prog w) A (call (.ref f) vs) Q E s := by
  intro X G N hlr hr hzl hd hx0 hx1 hvs hys P
  obtain ⟨oc, cvs, tk, hoc, hvd, hcv⟩ := N.code
  obtain ⟨t, u, v, rfl⟩ := reps_iii hvs
  refine wpAny_call (my_callF2 X G (G.z (.inr N.fn)) rfl ⟨c', oc, cvs, tk, rfl, G.z (.inr hoc), hvd, hcv⟩ (binds := [(Str.ofString "x", .int x t), (Str.ofString "L", .int l u), (Str.ofString "R", .int r v)]) (BindsTo.of_eq rfl) (locs rfl) (fun A' outer' K m₁ s₁ Q' E' FX LG hm B => ?_) (by decide))
  have FE' : FE (envX qual inI.scope K.a f (.ref c') cl) K := envX_ok rfl inI_cells
  have H0 : Al h₀ fz (envX qual inI.scope K.a f (.ref c') cl) m₁ (iρ n x l r .unset .unset .unset .unset) [] := inI_al N hm
  have hysl : ys.length = zs.length := by rw [hys.length, List.length_map]
  have back : ∀ {fz' : Led} {ys' : List Value} {zs' : List Int}, Reps h₀ fz' ys' (zs'.map .int) → Reps h₀ fz' ys' (zs'.map .int) := fun h => h.atoms (by
    unfold allAtom; rw [List.all_map]; exact List.all_eq_true.mpr fun _ _ => rfl)
  have hysg : Reps h₀ fz ys (zs.map .int) := hys.atoms (by unfold allAtom; rw [List.all_map]; exact List.all_eq_true.mpr fun _ _ => rfl)
  rw [inI_body]
  subst hb
  have R0 := H0.all.rho FE'.hl (p1 ++ (a, lo ys k) :: p2)
  rw [List.nil_append] at R0
  refine wpAny_execs_cons (wpAny_If (evT FX (Γ.mono' (Nat.zero_le _)) (r := true) (ρ := iρ n x l ((l + 1 : Nat) : Int) .unset .unset .unset .unset) FE'.O ?_ _ _ _ _ _ _ LG R0 fun b h1 tk1 add1 G1 ho1 hb1 => ?_))
  · show Ev _ inI.scope.names _ _
    rw [inI_names]; walk_at "V"
  subst hb1
  simp only [if_true]
  have R1 := R0.grow add1
  refine wpAny_execs_cons (wpAny_Assign_Subscript ?_ rfl)
  refine evE FX (Γ.mono' (Nat.zero_le _)) (r := (.int x, true)) FE'.O (by show Ev _ inI.scope.names _ _; rw [inI_names]; walk_at "V") _ _ _ _ _ _ G1 R1 fun vx h2 tk2 add2 G2 ho2 hr2 => ?_
  obtain ⟨ca, oa, hca, hoa, hda⟩ := N.ca
  refine wpAny_Name (wpAny_loadName_free rfl rfl hca ⟨oa, G2.z (.inr (by simp [hoa])), hda⟩ ?_ (by decide +kernel)) (by decide +kernel)
  refine evE FX (Γ.mono' (Nat.zero_le _)) (r := (.int l, true)) FE'.O (by show Ev _ inI.scope.names _ _; rw [inI_names]; walk_at "V") _ _ _ _ _ _ G2 (R1.grow add2) fun vl h3 tk3 add3 G3 ho3 hr3 => ?_
  cases hr2
  rename_i tx
  cases hr3
  refine set_at (j := l) (its := ys.toArray) (n := k) (G3.fixed (List.mem_append_right _ List.mem_cons_self)) (.inl ⟨by (first | lia | omega), by rw [List.size_toArray]; (first | lia | omega), by (first | lia | omega)⟩) (by rw [List.size_toArray]; (first | lia | omega)) fun h4 n4 hs4 hD => ?_
  have G4 : Lg h₀ K _ (p1 ++ (a, lo (ys.set l (.int x tx)) n4) :: p2) (add3 ++ (add2 ++ (add1 ++ fz))) h4 := Lg.replace G3 (fun b y hb ey => hs4.extBut b y hb ey) (by rw [hD]; simp [lo])
  refine wpAny_execs_cons (wpAny_Return_none ?_)
  obtain ⟨e1, o1⟩ := ((Grw.one (off_fz ho1)).f ho2).f ho3
  rw [e1] at G4
  refine B _ h4 _ _ [] _ _ G4 fun LGc => P _ _ h4 _ _ LGc o1 ?_
  · have hd1 : digs n (l + 1 - l) x = [x] := by
      rw [show l + 1 - l = 1 by (first | lia | omega)] at hx1 ⊢
      simp only [digs]
      rw [Nat.mul_one] at hx1
      rw [Int.emod_eq_of_lt hx0 hx1]
    rw [hd1, putAt_one (by (first | lia | omega))]
    exact zs_set (hys.sub fun q hq => by simp [hq]) l x _
theorem inI_call (Γ : Gx prog w p loose mean mg mb (fun _ _ => none) 0) (ΓO : GxO prog w p loose mean mg mb (fun _ _ => none) 0) {n : Nat} {qual : Str} {cl : List (Str × Addr)} {c' f a : Addr} {doc pm ct : Value} {len : Nat} (hn : n * len ≤ 7000) (hlen : len ≤ line24) :
    ∀ (d : Nat) {A₀ A : Around} {base h₀ : Heap} {outer : List Env} {fenv : Env} {L : Stk} {m : Str → Option Value} {p1 p2 fz : Led} {s : Shared} {Q E : Value → Shared → Prop} {x : Int} {l r k : Nat} {vs ys : List Value} {zs : List Int},
      Fx p loose mean mg mb A₀ A base h₀ outer fenv L (d + 1) → Lg h₀ L m (p1 ++ (a, lo ys k) :: p2) fz s.heap → NestI fz f a n qual cl c' doc pm ct → l < r → r ≤ zs.length → zs.length = len → r - l ≤ 2 ^ d → 0 ≤ x → x < 2 ^ (n * (r - l)) → Reps h₀ fz vs [.int x, .int l, .int r] → Reps h₀ fz ys (zs.map .int) →
      (∀ ys' k' h' tk' add, Lg h₀ L m (p1 ++ (a, lo ys' k') :: p2) (add ++ fz) h' → Off add fz → Reps h₀ (add ++ fz) ys' ((putAt zs l (digs n (r - l) x)).map .int) → Q .none { s with heap := h', toks := tk' }) →
      wpAny (model prog w) A (call (.ref f) vs) Q E s := by
  intro d
  induction d with
  | zero =>
    intro A₀ A base h₀ outer fenv L m p1 p2 fz s Q E x l r k vs ys zs X G N hlr hr hzl hd hx0 hx1 hvs hys P
    exact inI_base Γ ΓO hn hlen (by simp at hd; (first | lia | omega)) X G N hlr hr hzl hd hx0 hx1 hvs hys P
  | succ d ih =>
    intro A₀ A base h₀ outer fenv L m p1 p2 fz s Q E x l r k vs ys zs X G N hlr hr hzl hd hx0 hx1 hvs hys P
    by_cases hb : l + 1 = r
    · exact inI_base Γ ΓO hn hlen hb X G N hlr hr hzl hd hx0 hx1 hvs hys P
    obtain ⟨oc, cvs, tk, hoc, hvd, hcv⟩ := N.code
    obtain ⟨t, u, v, rfl⟩ := reps_iii hvs
    refine wpAny_call (my_callF2 X G (G.z (.inr N.fn)) rfl ⟨c', oc, cvs, tk, rfl, G.z (.inr hoc), hvd, hcv⟩ (binds := [(Str.ofString "x", .int x t), (Str.ofString "L", .int l u), (Str.ofString "R", .int r v)]) (BindsTo.of_eq rfl) (locs rfl) (fun A' outer' K m₁ s₁ Q' E' FX LG hm B => ?_) (by decide))
    have FE' : FE (envX qual inI.scope K.a f (.ref c') cl) K := envX_ok rfl inI_cells
    have H0 : Al h₀ fz (envX qual inI.scope K.a f (.ref c') cl) m₁ (iρ n x l r .unset .unset .unset .unset) [] := inI_al N hm
    have hysl : ys.length = zs.length := by rw [hys.length, List.length_map]
    have back : ∀ {fz' : Led} {ys' : List Value} {zs' : List Int}, Reps h₀ fz' ys' (zs'.map .int) → Reps h₀ fz' ys' (zs'.map .int) := fun h => h.atoms (by
      unfold allAtom; rw [List.all_map]; exact List.all_eq_true.mpr fun _ _ => rfl)
    have hysg : Reps h₀ fz ys (zs.map .int) := hys.atoms (by unfold allAtom; rw [List.all_map]; exact List.all_eq_true.mpr fun _ _ => rfl)
    rw [inI_body]
    have hn60 : n < 2 ^ 60 := by
      have := Nat.le_mul_of_pos_right n (show 0 < len by (first | lia | omega))
      (first | lia | omega)
    generalize hmid : (l + r) / 2 = mid
    have hm1 : l ≤ mid := by (first | lia | omega)
    have hm2 : mid ≤ r := by (first | lia | omega)
    have hp : 2 ^ (d + 1) = 2 ^ d * 2 := Nat.pow_succ ..
    have hsh : ((mid : Int) - l) * n = ((n * (mid - l) : Nat) : Int) := by
      rw [Nat.mul_comm, Int.natCast_mul]
      congr 1
      (first | lia | omega)
    obtain ⟨xn, rfl⟩ := Int.eq_ofNat_of_zero_le hx0
    have hnl : n * (mid - l) ≤ 7000 := Nat.le_trans (Nat.mul_le_mul_left n (by (first | lia | omega))) hn
    have hup : log8 ((xn : Int).fdiv (2 ^ (n * (mid - l)))) = true := by
      refine log8_of ?_
      rw [Int.fdiv_eq_ediv_of_nonneg _ (Int.le_of_lt (pow_pos' _))]
      have h1 : ((xn : Int) / 2 ^ (n * (mid - l))).natAbs ≤ xn := by
        have := Int.natAbs_ediv_le_natAbs (xn : Int) (2 ^ (n * (mid - l)))
        simpa using this
      have h2 : xn < 2 ^ (n * (r - l)) := by exact_mod_cast hx1
      have h3 : n * (r - l) ≤ 7000 := Nat.le_trans (Nat.mul_le_mul_left n (by (first | lia | omega))) hn
      exact Nat.lt_of_le_of_lt h1 (Nat.lt_of_lt_of_le h2 (Nat.pow_le_pow_right (by decide) (by (first | lia | omega))))
    have st : Steps (fun _ _ => none) (fun _ _ => none) inI.scope.names [stAt inI.body 0, stAt inI.body 1, stAt inI.body 2, stAt inI.body 3, stAt inI.body 4] (iρ n xn l r .unset .unset .unset .unset) (iρ n xn l r (.val (.int mid)) (.val (.int ((n * (mid - l) : Nat) : Int))) (.val (.int ((xn : Int).fdiv (2 ^ (n * (mid - l)))))) (.val (.int ((xn : Int) % 2 ^ (n * (mid - l)))))) := by
      refine ⟨_, inI_s0 _ _ n xn l r (by (first | lia | omega)), _, inI_s1 _ _ n xn l r, ?_⟩
      rw [fdiv_half, hmid]
      refine ⟨_, inI_s2 _ _ n xn l r mid hn60, ?_⟩
      rw [hsh]
      refine ⟨_, inI_s3 _ _ n xn l r mid (n * (mid - l)), _, inI_s4 _ _ n xn l r mid _ (n * (mid - l)) (by (first | lia | omega)) hup, ?_⟩
      rw [bitXor_low]
      rfl
    refine run_then (a := [_, _, _, _, _]) FX (Γ.mono' (Nat.zero_le _)) (ΓO.mono' (Nat.zero_le _)) FE' st H0 LG ?_
    intro h5 tk5 m5 fx5 add5 G5 ho5 H5
    generalize hfz5 : add5 ++ fz = fz5 at G5 H5
    have s5 : ∀ q ∈ fz, q ∈ fz5 := fun q hq => hfz5 ▸ List.mem_append_right _ hq
    have N5 := N.sub s5
    have R5 := H5.all.rho FE'.hl (p1 ++ (a, lo ys k) :: p2)
    obtain ⟨ci, oi, hci, hoi, hdi⟩ := N5.ci
    have load : ∀ {fix' fzz : Led} {s1 : Shared} {E : Value → Shared → Prop} {Q : Value → Shared → Prop}, (∀ q ∈ fz5, q ∈ fzz) → Lg h₀ K m5 fix' fzz s1.heap → Q (.ref f) s1 → wpAny (model prog w) A' (loadName (envX qual inI.scope K.a f (.ref c') cl) (Str.ofString "inner")) Q E s1 :=
      fun hs G h => wpAny_loadName_free rfl rfl hci ⟨_, G.z (.inr (hs _ hoi)), hdi⟩ h (by decide +kernel)
    refine wpAny_execs_cons (expr_none FE'.O rfl ?_)
    refine call_local (q := [.int ((xn : Int) % 2 ^ (n * (mid - l))), .int l, .int mid]) FX (Γ.mono' (Nat.zero_le _)) FE'.O (by decide +kernel) (load (fun _ h => h) G5) (List.mem_append_right _ N5.fn) rfl (by
      show Ev _ inI.scope.names _ _
      rw [inI_names]; walk_at "V") G5 R5 fun vs6 h6 tk6 add6 G6 ho6 hv6 => ?_
    have hxl0 : 0 ≤ (xn : Int) % 2 ^ (n * (mid - l)) := Int.emod_nonneg _ (Int.ne_of_gt (pow_pos' _))
    have hxl1 : (xn : Int) % 2 ^ (n * (mid - l)) < 2 ^ (n * (mid - l)) := Int.emod_lt_of_pos _ (pow_pos' _)
    refine ih (p1 := fx5 ++ p1) (p2 := p2) (ys := ys) (zs := zs) (k := k) FX (G6.cast (by simp)) (N5.sub fun q hq => List.mem_append_right _ hq) (by (first | lia | omega)) (by (first | lia | omega)) hzl (by (first | lia | omega)) hxl0 hxl1 hv6 (hysg.sub fun q hq => List.mem_append_right _ (s5 q hq)) fun ys7 k7 h7 tk7 add7 G7 ho7 hr7 => ⟨rfl, ?_⟩
    rw [digs_mod] at hr7
    have hA : (digs n (mid - l) (xn : Int)).length = mid - l := digs_len ..
    have hzl7 : (putAt zs l (digs n (mid - l) (xn : Int))).length = zs.length := putAt_len (by rw [hA]; (first | lia | omega))
    have R7 : RhoOk h₀ K m5 (fx5 ++ p1 ++ (a, lo ys7 k7) :: p2) (add7 ++ (add6 ++ fz5)) (envX qual inI.scope K.a f (.ref c') cl) (iρ n xn l r (.val (.int mid)) (.val (.int ((n * (mid - l) : Nat) : Int))) (.val (.int ((xn : Int).fdiv (2 ^ (n * (mid - l)))))) (.val (.int ((xn : Int) % 2 ^ (n * (mid - l)))))) := by
      have := (((H5.grow add6).grow add7).all.rho FE'.hl (p1 ++ (a, lo ys7 k7) :: p2))
      rwa [← List.append_assoc] at this
    refine wpAny_execs_cons (expr_none FE'.O rfl ?_)
    refine call_local (q := [.int ((xn : Int).fdiv (2 ^ (n * (mid - l)))), .int mid, .int r]) FX (Γ.mono' (Nat.zero_le _)) FE'.O (by decide +kernel) (load (fun q h => List.mem_append_right _ (List.mem_append_right _ h)) G7) (List.mem_append_right _ (List.mem_append_right _ (List.mem_append_right _ N5.fn))) rfl (by
      show Ev _ inI.scope.names _ _
      rw [inI_names]; walk_at "V") G7 R7 fun vs8 h8 tk8 add8 G8 ho8 hv8 => ?_
    have hfd : (xn : Int).fdiv (2 ^ (n * (mid - l))) = (xn : Int) / 2 ^ (n * (mid - l)) := Int.fdiv_eq_ediv_of_nonneg _ (Int.le_of_lt (pow_pos' _))
    rw [hfd] at hv8
    have hxu0 : 0 ≤ (xn : Int) / 2 ^ (n * (mid - l)) := Int.ediv_nonneg hx0 (Int.le_of_lt (pow_pos' _))
    have hxu1 : (xn : Int) / 2 ^ (n * (mid - l)) < 2 ^ (n * (r - mid)) := by
      refine Int.ediv_lt_of_lt_mul (pow_pos' _) ?_
      rw [← Int.pow_add, ← Nat.mul_add]
      rw [show r - mid + (mid - l) = r - l by (first | lia | omega)]
      exact hx1
    refine ih (p1 := fx5 ++ p1) (p2 := p2) (ys := ys7) (zs := putAt zs l (digs n (mid - l) (xn : Int))) (k := k7) FX G8 (N5.sub fun q hq => List.mem_append_right _ (List.mem_append_right _ (List.mem_append_right _ hq))) (by (first | lia | omega)) (by (first | lia | omega)) (by (first | lia | omega)) (by (first | lia | omega)) hxu0 hxu1 hv8 (hr7.sub fun q hq => List.mem_append_right _ hq) fun ys9 k9 h9 tk9 add9 G9 ho9 hr9 => ⟨rfl, ?_⟩
    refine wpAny_execs_nil ?_
    have G9' := G9.cast (fix' := fx5 ++ (p1 ++ (a, lo ys9 k9) :: p2)) (List.append_assoc ..)
    obtain ⟨e1, o1⟩ := ((((Grw.mk hfz5.symm ho5).f ho6).z ho7).f ho8).z ho9
    rw [e1] at G9' hr9
    refine B _ h9 _ m5 fx5 _ _ G9' fun LGc => P ys9 k9 h9 _ _ LGc o1 ?_
    · have e2 : putAt (putAt zs l (digs n (mid - l) (xn : Int))) mid (digs n (r - mid) ((xn : Int) / 2 ^ (n * (mid - l)))) = putAt zs l (digs n (r - l) xn) := by
        rw [show r - l = (mid - l) + (r - mid) by (first | lia | omega), digs_add]
        have := putAt_two (zs := zs) (l := l) (a := digs n (mid - l) (xn : Int)) (b := digs n (r - mid) ((xn : Int) / 2 ^ (n * (mid - l)))) (by rw [digs_len, digs_len]; (first | lia | omega))
        rw [hA, show l + (mid - l) = mid by (first | lia | omega)] at this
        exact this
      rw [e2] at hr9
      exact back hr9
end
end
section -- NF
theorem fI2D_body : fI2D.body = [stAt fI2D.body 0, .FunctionDef (Str.ofString "inner") inI.params inI.body [] none [] inI.scope none (Str.ofString "inner") inI.pos, stAt fI2D.body 2, stAt fI2D.body 3] := rfl
theorem fI2D_names : fI2D.scope.names = [(Str.ofString "a", .local), (Str.ofString "n", .cell), (Str.ofString "a_digits", .cell), (Str.ofString "inner", .cell), (Str.ofString "len", .globalImplicit)] := rfl
noncomputable abbrev oρ (a n : Int) : Rho := [(Str.ofString "inner", .cel none), (Str.ofString "a_digits", .cel none), (Str.ofString "n", .cel (some (.int n))), (Str.ofString "a", .val (.int a))]
theorem fI2D_rho (a n : Int) : rho0 fI2D.scope [Str.ofString "a", Str.ofString "n"] [.int a, .int n] = oρ a n := by
  unfold rho0 cellKeys localKeys
  rw [fI2D_names]
  simp [cellsFrom, List.lookup_cons, ofString_beq]

section
variable {prog : Program} {w : World} {p : Program} {loose : Heap → Prop} {mean : ExcName → Option Value} {mg mb : Str → Option Value}

theorem Lg.cast2 {h₀ h : Heap} {L : Stk} {m : Str → Option Value} {fix fz fz' : Led} (G : Lg h₀ L m fix fz h) (e : fz = fz') : Lg h₀ L m fix fz' h := e ▸ G
theorem mul_list_own {A : Around} {E : Value → Shared → Prop} {s : Shared} {h₀ : Heap} {fz : Led} {l : Addr} {vs : Array Value} {x : Int} {u : Tok} {ds : List D} {Q : Value → Shared → Prop} (hl : s.heap.IsList l vs) (hr : Reps h₀ fz vs.toList ds)
    (hx : x < 2 ^ 24) (hn : ds.length * x.toNat ≤ line24) (hlo : -(2 ^ 63 : Int) ≤ x)
    (h : ∀ arr : Array Value, Reps h₀ fz arr.toList (List.replicate x.toNat ds).flatten → Q (.ref s.heap.objs.size) { s with heap := s.heap.push { cls := .type "list", data := .seq arr 0 } }) : wpAny (model prog w) A (binaryOp .Mult (.ref l) (.int x u)) Q E s := by
  obtain ⟨⟨cls, d, data, sl⟩, ho, hcl, k, hd⟩ := id hl
  simp only at hcl hd
  subst hcl hd
  have hz : vs.size = ds.length := by have := hr.length; simpa using this
  have hsz' : vs.size * x.toNat ≤ 2 ^ 24 := by rw [hz]; exact hn
  refine wpAny_binaryOp_repeat_ref (T := "list") (U := "int") (by decide) ⟨_, ho, rfl⟩ (fun s' => typeIs_int s' x u) noFill_list_mul F.fills_int_mul F.slot_int_rmul repeat_list F.slot_int_index.lookup
    (call_meets F.slot_int_rmul (typeIs_int s x u) F.entry_int_rmul (F.args_int_rmul_2 _ _) (lm_int_rmul_list_any x u l vs k d sl)
      ⟨ho, rfl, ⟨_, ho, rfl⟩, call_meets F.slot_list_mul ⟨_, ho, rfl⟩ F.entry_list_mul (F.args_list_mul_2 _ _)
        (lm_list_mul_any l vs k d sl x u (by simp [Builtin.List.listFitsIndex]; (first | lia | omega)) (by (first | lia | omega)) (by simp [Builtin.List.listTooLong, sizeLine]; (first | lia | omega)))
        ⟨ho, ?_⟩⟩)
  refine h _ ?_
  rw [listMul_foldl_if]
  exact hr.flat _

theorem bits_le {a : Int} (h : 0 ≤ a) : a < 2 ^ Builtin.Int.intBits a := by
  unfold Builtin.Int.intBits
  obtain ⟨n, rfl⟩ := Int.eq_ofNat_of_zero_le h
  split
  · rename_i h0
    have : n = 0 := by simpa using h0
    subst this; simp
  · have := @Nat.lt_log2_self n
    have e : (Int.ofNat n).natAbs = n := rfl
    simp only [e] at *
    exact_mod_cast this
theorem bits_zero {a : Int} (h : 0 ≤ a) : Builtin.Int.intBits a = 0 ↔ a = 0 := by
  unfold Builtin.Int.intBits
  split
  · rename_i h0
    simp; simpa using h0
  · rename_i h0
    simp at h0
    simp [h0]

/-- how many digits there are -/
noncomputable def nDig (n : Nat) (a : Int) : Nat := (Builtin.Int.intBits a + n - 1) / n
theorem nDig_ge {n : Nat} {a : Int} (hn : 0 < n) : Builtin.Int.intBits a ≤ n * nDig n a := by
  unfold nDig
  have := Nat.div_add_mod (Builtin.Int.intBits a + n - 1) n
  have h2 := Nat.mod_lt (Builtin.Int.intBits a + n - 1) hn
  (first | lia | omega)
theorem nDig_zero {n : Nat} {a : Int} (hn : 0 < n) (h : 0 ≤ a) : nDig n a = 0 ↔ a = 0 := by
  have h1 := nDig_ge (n := n) (a := a) hn
  constructor
  · intro e
    rw [e, Nat.mul_zero] at h1
    exact (bits_zero h).mp (by (first | lia | omega))
  · rintro rfl
    unfold nDig
    have : Builtin.Int.intBits 0 = 0 := rfl
    rw [this]
    exact Nat.div_eq_of_lt (by (first | lia | omega))
theorem nDig_fits {n : Nat} {a : Int} (hn : 0 < n) (h : 0 ≤ a) : a < 2 ^ (n * nDig n a) :=
  Int.lt_of_lt_of_le (bits_le h) (pow2_le (nDig_ge hn))

theorem i2d_k (Φ : Phi) (a : Int) (n : Nat) (hn : 0 < n) (hn2 : n < 2 ^ 60) : ∃ e1 e2 ap bp, stAt fI2D.body 0 = .Assign [.Name (Str.ofString "a_digits") ap] (.BinOp e1 .Mult e2 bp) (stAt fI2D.body 0).pos ∧
    Ev Φ fI2D.scope.names (oρ a n) (.E e1 (.lst [.int 0], true)) ∧ Ev Φ fI2D.scope.names (oρ a n) (.E e2 (.int (nDig n a), true)) := by
  refine ⟨_, _, _, _, rfl, ?_, ?_⟩
  · rw [fI2D_names]
    walk_at "V"
  · rw [fI2D_names]
    have h1 : (0 : Int) < n := by (first | lia | omega)
    have h2 := log8_of (x := (n : Int)) (Nat.lt_of_lt_of_le (show (n : Int).natAbs < 2 ^ 60 by (first | lia | omega)) (Nat.pow_le_pow_right (by decide) (by decide)))
    have h3 : ((Builtin.Int.intBits a : Int) + n - 1) / n = ((nDig n a : Nat) : Int) := by
      unfold nDig
      rw [Int.natCast_ediv]
      congr 1
      (first | lia | omega)
    rw [← h3]
    walk_at "V"

theorem i2d_call (Γ : Gx prog w p loose mean mg mb (fun _ _ => none) 0) (ΓO : GxO prog w p loose mean mg mb (fun _ _ => none) 0) {c P : Addr} (hT : (P, Str.ofString "_int2digits.<locals>.inner") ∈ tabs) (hL : ∀ h, loose h → NestFn mg fI2D c P h)
    {a : Int} {n : Nat} (ha : 0 ≤ a) (hn0 : 0 < n) (hn : n * nDig n a ≤ 7000) (hlen : nDig n a ≤ 4096) (hn60 : n < 2 ^ 60) : ∀ fv, mg fI2D.name = some fv → CallOwn prog w p loose mean mg mb 14 fv [.int a, .int n] ((digs n (nDig n a) a).map .int) := by
  intro fv hfv A₀ A base h₀ outer fenv L m fix fz s vs Q E X G hvs P'
  obtain ⟨fa, o, pm, doc, hmg, hob, hfd, hcd, hch⟩ := hL _ X.T.ex
  rw [hmg] at hfv
  cases hfv
  refine enter X G hob hfd hcd (xs := [Str.ofString "a", Str.ofString "n"]) (by decide +kernel) (fun pm code doc vs hl => ?_) rfl hvs fun A' outer' K m' cells s₁ Q' E' FX FE' LG H0 B => ?_
  · obtain ⟨v1, v2, rfl⟩ := two_of hl
    rfl
  rw [fI2D_rho] at H0
  rw [fI2D_body]
  have hL24 : nDig n a ≤ line24 := Nat.le_trans hlen (by decide)
  -- the list of noughts
  obtain ⟨e1, e2, ap, bp, hst, hev1, hev2⟩ := i2d_k (fun _ _ => none) a n hn0 hn60
  rw [hst]
  have R0 := H0.all.rho FE'.hl fix
  refine wpAny_execs_cons (wpAny_Assign_Name (wpAny_BinOp ?_) rfl)
  refine evE FX (Γ.mono' (Nat.zero_le _)) FE'.O hev1 _ _ _ _ _ _ LG R0 fun v1 h1 tk1 add1 G1 ho1 hr1 => ?_
  refine evE FX (Γ.mono' (Nat.zero_le _)) FE'.O hev2 _ _ _ _ _ _ G1 (R0.grow add1) fun v2 h2 tk2 add2 G2 ho2 hr2 => ?_
  obtain ⟨l0, arr0, rfl, hl0, hz0, hrr0⟩ := listR_of (s := ⟨h2, s₁.gens, s₁.drawn, tk2, s₁.os⟩) G2 (hr1.grow add2)
  cases hr2
  refine mul_list_own hl0 hrr0 (by unfold line24 at hL24; (first | lia | omega)) (by simpa using hL24) (by (first | lia | omega)) fun arr harr => ?_
  generalize had : h2.objs.size = ad
  have G3 : Lg h₀ K m' ((ad, lo arr.toList 0) :: (cells ++ fix)) (add2 ++ (add1 ++ fz)) (h2.push { cls := .type "list", data := .seq arr 0 }) :=
    G2.newFix (fun b x e => Heap.get?_push_of_some _ e) (by rw [← had, lo, Array.toArray_toList]; exact Heap.get?_push_size _ rfl) (Nat.le_of_eq had)
  generalize h2.push { cls := .type "list", data := .seq arr 0 } = h3 at G3
  have H2 := (H0.grow add1).grow add2
  obtain ⟨_, q1, l1, q2, hfx, ⟨hk1, ca, oa, ova, rfl, hca, hda, _⟩, kk⟩ := H2.all.split (x := Str.ofString "a_digits") (sl := .cel none) H2.nd (by simp [List.lookup_cons, ofString_beq])
  subst hfx
  refine wpAny_storeName_cell (env := envOfC fI2D.name fI2D.scope K.a fa (.ref c)) rfl hk1 hca ⟨oa, G3.fixed (by simp), hda⟩ fun h4 hv4 hs4 => ?_
  obtain ⟨oa', hoa', hda'⟩ := hv4
  have G4 : Lg h₀ K m' (((ad, lo arr.toList 0) :: q1) ++ (ca, oa') :: (q2 ++ fix)) (add2 ++ (add1 ++ fz)) h4 := Lg.replace (G3.cast (fix' := ((ad, lo arr.toList 0) :: q1) ++ (ca, oa) :: (q2 ++ fix)) (by simp)) (fun b x hb ex => hs4.extBut b x hb ex) hoa'
  have A4 := kk _ _ (.cel none) [(ca, oa')] (fun _ _ => rfl) (fun _ h => h) ⟨hk1, ca, oa', _, rfl, hca, hda', fun _ h => nomatch h⟩
  have hup : upd (oρ a n) (Str.ofString "a_digits") (.cel none) = oρ a n := by simp [upd, ofString_beq]
  rw [hup] at A4
  generalize hK : q1 ++ ([(ca, oa')] ++ q2) = Kq at A4
  have ma : (ca, oa') ∈ Kq := by rw [← hK]; simp
  have G5 : Lg h₀ K m' ((ad, lo arr.toList 0) :: (Kq ++ fix)) (add2 ++ (add1 ++ fz)) h4 := G4.cast (by rw [← hK]; simp)
  have hcf : cellsFrom (K.a + 1) fI2D.scope.names [] = [(Str.ofString "inner", K.a + 1 + 1 + 1), (Str.ofString "a_digits", K.a + 1 + 1), (Str.ofString "n", K.a + 1)] := by rw [fI2D_names]; rfl
  have hca2 : ca = K.a + 1 + 1 := by
    change (cellsFrom (K.a + 1) fI2D.scope.names []).lookup _ = _ at hca
    rw [hcf] at hca
    simpa [List.lookup_cons, ofString_beq] using hca.symm
  -- the inner function
  obtain ⟨clos, hclos, hclc⟩ := closureFor_of (env := envOfC fI2D.name fI2D.scope K.a fa (.ref c)) (sc := inI.scope) (by
    intro x hx e
    have : x ∈ [(Str.ofString "a_digits", NameKind.free), (Str.ofString "inner", .free), (Str.ofString "n", .free)] := by
      rw [inI_names] at hx
      simp only [List.mem_cons, List.not_mem_nil, or_false] at hx ⊢
      rcases hx with rfl | rfl | rfl | rfl | rfl | rfl | rfl | h <;> first | cases e | exact h
    simp only [List.mem_cons, List.not_mem_nil, or_false] at this
    rcases this with rfl | rfl | rfl <;> exact cellsFrom_some _ _ _ (.inl rfl))
  obtain ⟨p', l', hTop⟩ := FX.T.top
  have hch' : CodeHd h₀ c P := hch
  generalize hfz5 : add2 ++ (add1 ++ fz) = fz5 at G5 A4 harr
  have s5 : ∀ q ∈ fz, q ∈ fz5 := fun q hq => by rw [← hfz5]; simp [hq]
  refine wpAny_execs_cons (nestDef_K rfl rfl rfl ?_)
  refine nest_make (cn := fI2D.name) (cs := fI2D.scope) (a := fa) (cl := cellsFrom (K.a + 1) fI2D.scope.names []) (s := ⟨h4, s₁.gens, s₁.drawn, _, s₁.os⟩) G5 hTop hT hch' hclos fun f c' ct doc' pm' h6 tk6 add6 oc cvs ctk G6 ho6 hfn hoc hvd hcv => ?_
  have A6 := A4.grow (m' := m') (fz' := add6 ++ fz5) (fun _ _ => rfl) fun q hq => List.mem_append_right _ hq
  obtain ⟨_, r1, l6, r2, hKe, ⟨hk6, ci, oi, ovi, rfl, hci, hdi, _⟩, kk6⟩ := A6.split (x := Str.ofString "inner") (sl := .cel none) H2.nd (by simp [List.lookup_cons, ofString_beq])
  have hci2 : ci = K.a + 1 + 1 + 1 := by
    change (cellsFrom (K.a + 1) fI2D.scope.names []).lookup _ = _ at hci
    rw [hcf] at hci
    simpa [List.lookup_cons, ofString_beq] using hci.symm
  refine wpAny_storeName_cell (env := envOfC fI2D.name fI2D.scope K.a fa (.ref c)) rfl hk6 hci ⟨oi, G6.fixed (List.mem_cons_of_mem _ (List.mem_append_left _ (by rw [hKe]; simp))), hdi⟩ fun h7 hv7 hs7 => ?_
  obtain ⟨oi', hoi', hdi'⟩ := hv7
  have G7 : Lg h₀ K m' (((ad, lo arr.toList 0) :: r1) ++ (ci, oi') :: (r2 ++ fix)) (add6 ++ fz5) h7 := Lg.replace (G6.cast (fix' := ((ad, lo arr.toList 0) :: r1) ++ (ci, oi) :: (r2 ++ fix)) (by rw [hKe]; simp)) (fun b x hb ex => hs7.extBut b x hb ex) hoi'
  have A7 := kk6 _ _ (.cel none) [(ci, oi')] (fun _ _ => rfl) (fun _ h => h) ⟨hk6, ci, oi', _, rfl, hci, hdi', fun _ h => nomatch h⟩
  have hup2 : upd (oρ a n) (Str.ofString "inner") (.cel none) = oρ a n := by simp [upd]
  rw [hup2] at A7
  have ma7 : (ca, oa') ∈ r1 ++ ([(ci, oi')] ++ r2) := by
    rw [hKe] at ma
    simp only [List.mem_append, List.mem_cons, List.not_mem_nil, or_false] at ma ⊢
    rcases ma with h | h | h
    · exact .inl h
    · have : ca = ci := congrArg Prod.fst h
      rw [hca2, hci2] at this
      exact absurd this (Nat.ne_of_lt (Nat.lt_succ_self _))
    · exact .inr (.inr h)
  have mi7 : (ci, oi') ∈ r1 ++ ([(ci, oi')] ++ r2) := by simp
  obtain ⟨G8, ho8⟩ := Lg.freezes (a := r1 ++ ([(ci, oi')] ++ r2)) (b := (ad, lo arr.toList 0) :: fix) (G7.perm (by
    have e : (((ad, lo arr.toList 0) :: r1) ++ (ci, oi') :: (r2 ++ fix)) = (ad, lo arr.toList 0) :: ((r1 ++ ([(ci, oi')] ++ r2)) ++ fix) := by simp
    rw [e]
    exact List.perm_middle.symm))
  generalize r1 ++ ([(ci, oi')] ++ r2) = K7 at A7 ma7 mi7 G8 ho8
  obtain ⟨_, _, l9, _, hf9, ⟨_, cn, on, ovn, rfl, hcn, hdn, hvn⟩, _⟩ := A7.split (x := Str.ofString "n") (sl := .cel (some (.int n))) H2.nd (by simp [List.lookup_cons, ofString_beq])
  have mn : (cn, on) ∈ K7 := by rw [hf9]; simp
  obtain ⟨vn, hvn1, hvn2⟩ := hvn _ rfl
  cases hvn2
  obtain ⟨_, _, l10, _, _, ⟨_, hka, va, hva, hra⟩, _⟩ := A7.split (x := Str.ofString "a") (sl := .val (.int a)) H2.nd (by simp [List.lookup_cons, ofString_beq])
  have NI : NestI (K7 ++ (add6 ++ fz5)) f ad n (Str.ofString "_int2digits.<locals>.inner") clos c' doc' pm' ct := by
    refine ⟨List.mem_append_right _ (List.mem_append_left _ hfn), ⟨oc, cvs, ctk, List.mem_append_right _ hoc, hvd, hcv⟩, ⟨cn, on, _, hclc _ _ hcn (by rw [inI_names]; simp), List.mem_append_left _ mn, by rw [hdn, hvn1]⟩,
      ⟨ca, oa', hclc _ _ hca (by rw [inI_names]; simp), List.mem_append_left _ ma7, hda'⟩, ⟨ci, oi', hclc _ _ hci (by rw [inI_names]; simp), List.mem_append_left _ mi7, hdi'⟩⟩
  obtain ⟨efz, hadd⟩ := ((hfz5 ▸ (Grw.one (off_fz ho1)).f ho2 : Grw fz fz5 (add2 ++ add1)).f ho6).z (off_fz ho8)
  rw [efz] at G8 NI
  have ma8 : (ca, oa') ∈ K7 ++ (add6 ++ (add2 ++ add1)) := List.mem_append_left _ ma7
  have mi8 : (ci, oi') ∈ K7 ++ (add6 ++ (add2 ++ add1)) := List.mem_append_left _ mi7
  generalize K7 ++ (add6 ++ (add2 ++ add1)) = add8 at G8 NI hadd ma8 mi8
  have R8 : ∀ fix' fz', (∀ q ∈ fz, q ∈ fz') → RhoOk h₀ K m' fix' fz' (envOfC fI2D.name fI2D.scope K.a fa (.ref c)) [(Str.ofString "a", .val (.int a))] := by
    intro fix' fz' hs x sl hx
    simp only [List.lookup_cons, List.lookup_nil] at hx
    split at hx
    · rename_i hb
      cases hx
      rw [eq_of_beq hb]
      exact ⟨by decide +kernel, va, .loc FE'.hl hka hva, hra.atom rfl⟩
    · cases hx
  have hrepl : (List.replicate (nDig n a) [D.int 0]).flatten = (List.replicate (nDig n a) (0 : Int)).map .int := by
    generalize nDig n a = k
    induction k with
    | zero => rfl
    | succ k ih => rw [List.replicate_succ, List.flatten_cons, ih, List.replicate_succ]; rfl
  rw [Int.toNat_natCast, hrepl] at harr
  have hall : ∀ l : List Int, allAtom (l.map D.int) = true := fun l => by
    unfold allAtom; rw [List.all_map]; exact List.all_eq_true.mpr fun _ _ => rfl
  have fin : ∀ ys' k' h' tk' add', Lg h₀ K m' ((ad, lo ys' k') :: fix) (add' ++ (add8 ++ fz)) h' → Off add' fz → Reps h₀ (add' ++ (add8 ++ fz)) ys' ((digs n (nDig n a) a).map .int) → wpAny (model prog w) A' (execs [stAt fI2D.body 3] (envOfC fI2D.name fI2D.scope K.a fa (.ref c))) Q' E' { s₁ with heap := h', toks := tk' } := by
    intro ys' k' h' tk' add' GF hoF hrF
    refine wpAny_execs_cons (wpAny_Return_some (wpAny_Name (wpAny_loadName_cell rfl hk1 hca ⟨oa', GF.z (.inr (List.mem_append_right _ (List.mem_append_left _ ma8))), hda'⟩ ?_) (by decide +kernel)))
    rw [← List.append_assoc] at GF hrF
    have hoA : Off (add' ++ add8) fz := Off.append hoF hadd
    refine B _ h' _ m' [] ((ad, lo ys' k') :: fix) _ GF fun LGc => P' ad ys' k' h' tk' _ LGc (off_of (fx' := []) (g := h₀) (L' := K) (m' := m') (h := h') GF.dropFix hoA) ?_ (hrF.atoms (hall _))
    rw [hrF.length, List.length_map, digs_len]; exact hL24
  refine wpAny_execs_cons (wpAny_If (evT FX (Γ.mono' (Nat.zero_le _)) (r := a != 0) (ρ := [(Str.ofString "a", .val (.int a))]) FE'.O ?_ _ _ _ _ _ _ G8 (R8 _ _ fun q hq => List.mem_append_right _ hq) fun b h9 tk9 add9 G9 ho9 hb9 => ?_))
  · show Ev _ fI2D.scope.names _ _
    rw [fI2D_names]; walk_at "V"
  subst hb9
  by_cases ha0 : a = 0
  · have hb : (a != 0) = false := by simp [ha0]
    rw [hb]
    simp only [Bool.false_eq_true, if_false]
    have hk0 : nDig n a = 0 := (nDig_zero hn0 ha).mpr ha0
    refine wpAny_execs_nil (fin arr.toList 0 h9 _ add9 G9 ((off_fz ho9).sub fun q hq => List.mem_append_right _ hq) ?_)
    rw [hk0] at harr ⊢
    exact harr.atoms (hall [])
  · have hb : (a != 0) = true := by simp [ha0]
    rw [hb]
    simp only [if_true]
    have hkpos : 0 < nDig n a := by
      rcases Nat.eq_zero_or_pos (nDig n a) with h | h
      · exact absurd ((nDig_zero hn0 ha).mp h) ha0
      · exact h
    have N9 := NI.sub fun q hq => List.mem_append_right add9 hq
    refine wpAny_execs_cons (expr_none FE'.O rfl ?_)
    refine Call_Name_ (wpAny_Name (wpAny_loadName_cell rfl hk6 hci ⟨oi', G9.z (.inr ?_), hdi'⟩ ?_) (by decide +kernel))
    · exact List.mem_append_right _ (List.mem_append_left _ mi8)
    obtain ⟨cvs2, hfo⟩ : ∃ fd, (fnMade (Str.ofString "inner") (Str.ofString "_int2digits.<locals>.inner") inI.params inI.body inI.scope clos doc' pm' c' ct).data = .func fd := ⟨_, rfl⟩
    refine callWith_function (fd := cvs2) (o := fnMade (Str.ofString "inner") (Str.ofString "_int2digits.<locals>.inner") inI.params inI.body inI.scope clos doc' pm' c' ct) (evalArgs_all rfl ?_)
    refine spliced_back_cons rfl (evE FX (Γ.mono' (Nat.zero_le _)) (r := (.int a, true)) (ρ := [(Str.ofString "a", .val (.int a))]) FE'.O (by show Ev _ fI2D.scope.names _ _; rw [fI2D_names]; walk_at "V") _ _ _ _ _ _ G9 (R8 _ _ fun q hq => by simp [hq]) fun v10 h10 tk10 add10 G10 ho10 hr10 => ?_)
    refine spliced_back_cons rfl (wpAny_Constant_int ?_)
    refine spliced_back_cons rfl (Call_Name_ (global_sound (mg := mg) (mb := mb) (v := .builtin "len") FE'.O (G10.keep fun _ _ e => e) FX.T.g FX.T.b rfl (by decide +kernel) (.inr ⟨Γ.nob _ (by decide), (FX.T.builtins _ (by decide)).trans boot_len⟩) ?_))
    refine callWith_builtin rfl (evalArgs_all rfl (spliced_back_cons rfl (wpAny_Name (wpAny_loadName_cell rfl hk1 hca ⟨oa', G10.z (.inr (by simp [ma8])), hda'⟩ (spliced_nil ?_)) (by decide +kernel))))
    have hll : h10.IsList ad arr := ⟨_, G10.fixed List.mem_cons_self, rfl, 0, by simp [lo]⟩
    have hsz : arr.size = nDig n a := by
      have := harr.length
      rw [Array.length_toList, List.length_map, List.length_replicate] at this
      exact this
    refine PyProof.Rows.len_list hll (by rw [hsz]; exact line24_fit hL24) (spliced_nil ⟨⟨G10.z (.inr (by
      have := NI.fn
      simp only [List.mem_append] at this ⊢
      exact .inr (.inr this))), hfo⟩, ?_⟩)
    rw [hsz]
    have hr10' : ∀ t u, Reps h₀ (add10 ++ (add9 ++ (add8 ++ fz))) [v10, Value.int 0 t, Value.int (nDig n a) u] [.int a, .int ((0 : Nat) : Int), .int (nDig n a)] := fun t u => .cons hr10 (.cons (.int _ _) (.cons (.int _ _) .nil))
    have hzl : (List.replicate (nDig n a) (0 : Int)).length = nDig n a := List.length_replicate
    refine inI_call Γ ΓO hn hL24 12 (p1 := []) (p2 := fix) (ys := arr.toList) (zs := List.replicate (nDig n a) 0) (k := 0) (l := 0) (r := nDig n a) FX G10 (NI.sub fun q hq => List.mem_append_right _ (List.mem_append_right _ hq)) hkpos (by rw [hzl]; exact Nat.le_refl _) hzl (by simpa using hlen) ha (by simpa using nDig_fits hn0 ha) (hr10' _ _) (harr.atoms (hall _)) fun ys' k' h' tk' add' GF hoF hrF => ⟨rfl, ?_⟩
    refine wpAny_execs_nil (fin ys' k' h' tk' (add' ++ (add10 ++ add9)) (GF.cast2 (by simp only [List.append_assoc])) ?_ ?_)
    · exact Off.append (hoF.sub fun q hq => by simp [hq]) (Off.append ((off_fz ho10).sub fun q hq => by simp [hq]) ((off_fz ho9).sub fun q hq => by simp [hq]))
    · rw [Nat.sub_zero, putAt_all (by rw [hzl, digs_len])] at hrF
      exact hrF.atoms (hall _)
end
end
section -- NG
noncomputable def addΦ (g : String) (F : List D → Option D) (Φ : Phi) : Phi := fun x ds => if x = Str.ofString g then F ds else Φ x ds
noncomputable def addΨ (g : String) (F : List D → Option (List D)) (Ψ : Psi) : Psi := fun x ds => if x = Str.ofString g then F ds else Ψ x ds
noncomputable abbrev noΦ : Phi := fun _ _ => none
noncomputable abbrev noΨ : Psi := fun _ _ => none

section
variable {prog : Program} {w : World} {p : Program} {loose : Heap → Prop} {mean : ExcName → Option Value} {mg mb : Str → Option Value} {Φ : Phi} {Ψ : Psi} {dep : Nat}
theorem Gx.add (Γ : Gx prog w p loose mean mg mb Φ dep) {g : String} {F : List D → Option D} {r : DefRec} (hr : r ∈ recsOf p) (hn : r.name = Str.ofString g) (hd : (Str.ofString g == ("__debug__" : Str)) = false)
    (h : ∀ ds d, F ds = some d → ∀ fv, mg r.name = some fv → CallOk prog w p loose mean mg mb dep fv ds d) : Gx prog w p loose mean mg mb (addΦ g F Φ) dep :=
  ⟨fun x ds d e => by
    unfold addΦ at e
    split at e
    · rename_i hx
      subst hx
      exact ⟨hd, r, hr, hn, fun fv hv => h ds d e fv (by rw [hn]; exact hv)⟩
    · exact Γ.phi x ds d e, Γ.nob, Γ.cst⟩
theorem GxO.add (Γ : GxO prog w p loose mean mg mb Ψ dep) {g : String} {F : List D → Option (List D)} {r : DefRec} (hr : r ∈ recsOf p) (hn : r.name = Str.ofString g) (hd : (Str.ofString g == ("__debug__" : Str)) = false)
    (h : ∀ ds d, F ds = some d → ∀ fv, mg r.name = some fv → CallOwn prog w p loose mean mg mb dep fv ds d) : GxO prog w p loose mean mg mb (addΨ g F Ψ) dep :=
  ⟨fun x ds d e => by
    unfold addΨ at e
    split at e
    · rename_i hx
      subst hx
      exact ⟨hd, r, hr, hn, fun fv hv => h ds d e fv (by rw [hn]; exact hv)⟩
    · exact Γ.psi x ds d e⟩
end

/-! ## division of the library -/
noncomputable def fDV : DefRec := fnIx pw 4
noncomputable def fDP : DefRec := fnIx pw 8
noncomputable def fID : DefRec := fnIx pw 9

noncomputable def FI : List D → Option D
  | [.int a, .int n] => if 0 ≤ a ∧ 0 < n ∧ n < 2 ^ 60 ∧ n.toNat * nDig n.toNat a ≤ 7000 ∧ nDig n.toNat a ≤ 4096 then some (zl (digs n.toNat (nDig n.toNat a) a)) else none
  | _ => none
noncomputable def FIo : List D → Option (List D)
  | [.int a, .int n] => if 0 ≤ a ∧ 0 < n ∧ n < 2 ^ 60 ∧ n.toNat * nDig n.toNat a ≤ 7000 ∧ nDig n.toNat a ≤ 4096 then some ((digs n.toNat (nDig n.toNat a) a).map .int) else none
  | _ => none
noncomputable def FD : List D → Option D
  | [.lst l, .int n] => (intsOf l).bind fun ns => if 0 ≤ n ∧ n.toNat * ns.length ≤ 7000 ∧ ns.length ≤ 4096 ∧ (∀ x ∈ ns, 0 ≤ x ∧ x < 2 ^ n.toNat) then some (.int (d2i n.toNat ns)) else none
  | _ => none
noncomputable def FV : List D → Option D
  | [.int a, .int b, .int n] => if 0 < b ∧ (Builtin.Int.intBits a : Int) - n ≤ 4000 ∧ log8 b = true then some (.tup [.int (a.fdiv b), .int (a.fmod b)]) else none
  | _ => none

theorem intsOf_map : ∀ l : List Int, intsOf (l.map .int) = some l
  | [] => rfl
  | a :: r => by rw [List.map_cons, intsOf, intsOf_map r]; rfl
theorem intsOf_eq : ∀ {l : List D} {ns : List Int}, intsOf l = some ns → l = ns.map .int
  | [], ns, h => by simp [intsOf] at h; subst h; rfl
  | .int i :: r, ns, h => by
    simp only [intsOf, Option.map_eq_some_iff] at h
    obtain ⟨m, hm, rfl⟩ := h
    rw [intsOf_eq hm]; rfl
  | .none :: _, _, h => by simp [intsOf] at h
  | .bool _ :: _, _, h => by simp [intsOf] at h
  | .tup _ :: _, _, h => by simp [intsOf] at h
  | .lst _ :: _, _, h => by simp [intsOf] at h


theorem fDV_rho (a b n : Int) : rho0 fDV.scope [Str.ofString "a", Str.ofString "b", Str.ofString "n"] [.int a, .int b, .int n] = [(Str.ofString "a", .val (.int a)), (Str.ofString "b", .val (.int b)), (Str.ofString "n", .val (.int n)), (Str.ofString "pad", .unset), (Str.ofString "half_n", .unset), (Str.ofString "mask", .unset), (Str.ofString "b1", .unset), (Str.ofString "b2", .unset), (Str.ofString "q1", .unset), (Str.ofString "r", .unset), (Str.ofString "q2", .unset)] := by
  unfold rho0 cellKeys localKeys
  conv => lhs; simp only [show fDV.scope.names = _ from by conv => lhs; whnf]
  simp [cellsFrom, List.lookup_cons, ofString_beq]

noncomputable def Rets (Φ : Phi) (Ψ : Psi) (r : DefRec) (xs : List Str) (ds : List D) (d : D) : Prop := ∃ ρ', Run Φ Ψ r.scope.names (.B r.body) (rho0 r.scope xs ds) ρ' (.ret d)
theorem rets_of {Φ : Phi} {Ψ : Psi} {r : DefRec} {xs : List Str} {ds : List D} {d : D} {ρ : Rho} (hρ : rho0 r.scope xs ds = ρ) (h : ∃ ρ', Run Φ Ψ r.scope.names (.B r.body) ρ ρ' (.ret d)) : Rets Φ Ψ r xs ds d := by
  unfold Rets
  rw [hρ]; exact h

theorem fDV_run (Φ : Phi) (Ψ : Psi) (a b n : Int) (hb : 0 < b) (h : (Builtin.Int.intBits a : Int) - n ≤ 4000) (h8 : log8 b = true) : Rets Φ Ψ fDV [Str.ofString "a", Str.ofString "b", Str.ofString "n"] [.int a, .int b, .int n] (.tup [.int (a.fdiv b), .int (a.fmod b)]) := by
  refine rets_of (fDV_rho a b n) ?_
  apply Exists.intro
  conv => arg 3; whnf
  conv => arg 4; arg 1; whnf
  have h1 : builtD (Str.ofString "divmod") [.int a, .int b] = some (some (.tup [.int (a.fdiv b), .int (a.fmod b)])) := by
    have : b ≠ 0 := by (first | lia | omega)
    simp [builtD, ofString_eq, this, h8]
  walk_at "S"

/-! ## _divmod_pos -/
theorem fDP_rho (a b : Int) : rho0 fDP.scope [Str.ofString "a", Str.ofString "b"] [.int a, .int b] = [(Str.ofString "a", .val (.int a)), (Str.ofString "b", .val (.int b)), (Str.ofString "n", .unset), (Str.ofString "a_digits", .unset), (Str.ofString "r", .unset), (Str.ofString "q_digits", .unset), (Str.ofString "a_digit", .unset), (Str.ofString "q_digit", .unset), (Str.ofString "q", .unset)] := by
  unfold rho0 cellKeys localKeys
  conv => lhs; simp only [show fDP.scope.names = _ from by conv => lhs; whnf]
  simp [cellsFrom, List.lookup_cons, ofString_beq]
/-- the long division's rows -/
noncomputable def ldiv (n : Nat) (b : Int) : Int → List Int → List Int × Int
  | r, [] => ([], r)
  | r, d :: ds => ((r * 2 ^ n + d).fdiv b :: (ldiv n b ((r * 2 ^ n + d).fmod b) ds).1, (ldiv n b ((r * 2 ^ n + d).fmod b) ds).2)
theorem ldiv_spec (n : Nat) (b : Int) (hb : 0 < b) (hbn : b ≤ 2 ^ n) : ∀ (ds : List Int) (r : Int), 0 ≤ r → r < b → (∀ x ∈ ds, 0 ≤ x ∧ x < 2 ^ n) →
    0 ≤ (ldiv n b r ds).2 ∧ (ldiv n b r ds).2 < b ∧ (∀ x ∈ (ldiv n b r ds).1, 0 ≤ x ∧ x < 2 ^ n) ∧ (ldiv n b r ds).1.length = ds.length ∧
    r * 2 ^ (n * ds.length) + d2i n ds.reverse = b * d2i n (ldiv n b r ds).1.reverse + (ldiv n b r ds).2
  | [], r, h0, h1, _ => by simp [ldiv, d2i, h0, h1]
  | d :: ds, r, h0, h1, hd => by
    obtain ⟨d0, d1⟩ := hd d List.mem_cons_self
    have hp := pow_pos' n
    have hq := Int.mul_fdiv_add_fmod (r * 2 ^ n + d) b
    have hr0 := Int.fmod_nonneg_of_pos (r * 2 ^ n + d) hb
    have hr1 := Int.fmod_lt_of_pos (r * 2 ^ n + d) hb
    obtain ⟨a1, a2, a3, a4, a5⟩ := ldiv_spec n b hb hbn ds ((r * 2 ^ n + d).fmod b) hr0 hr1 fun x hx => hd x (List.mem_cons_of_mem _ hx)
    refine ⟨a1, a2, fun x hx => ?_, by simp [ldiv, a4], ?_⟩
    · rcases List.mem_cons.mp hx with rfl | hx
      · have hv0 : 0 ≤ r * 2 ^ n + d := by have := Int.mul_nonneg h0 (Int.le_of_lt hp); (first | lia | omega)
        have hv1 : r * 2 ^ n + d < b * 2 ^ n := by
          have := Int.mul_le_mul_of_nonneg_right (show r + 1 ≤ b by (first | lia | omega)) (Int.le_of_lt hp)
          rw [Int.add_mul, Int.one_mul] at this
          (first | lia | omega)
        rw [Int.fdiv_eq_ediv_of_nonneg _ (Int.le_of_lt hb)]
        exact ⟨Int.ediv_nonneg hv0 (Int.le_of_lt hb), Int.ediv_lt_of_lt_mul hb (by rw [Int.mul_comm (2 ^ n) b]; exact hv1)⟩
      · exact a3 x hx
    · simp only [ldiv, List.reverse_cons, List.length_cons]
      rw [d2i_append, d2i_append]
      simp only [List.length_reverse, d2i, Int.mul_zero, Int.add_zero, a4]
      have e : (2 : Int) ^ (n * (ds.length + 1)) = 2 ^ n * 2 ^ (n * ds.length) := by rw [Nat.mul_add, Nat.mul_one, Nat.add_comm, Int.pow_add]
      rw [e, Int.mul_add, ← Int.mul_assoc b]
      have e2 : r * (2 ^ n * 2 ^ (n * ds.length)) = 2 ^ (n * ds.length) * (r * 2 ^ n) := by
        rw [Int.mul_comm (2 ^ n), ← Int.mul_assoc, Int.mul_comm r, Int.mul_assoc]
      have e3 : b * 2 ^ (n * ds.length) * (r * 2 ^ n + d).fdiv b = 2 ^ (n * ds.length) * (b * (r * 2 ^ n + d).fdiv b) := by
        rw [Int.mul_comm b, Int.mul_assoc]
      rw [e2, e3]
      have e4 : 2 ^ (n * ds.length) * (r * 2 ^ n) + 2 ^ (n * ds.length) * d = 2 ^ (n * ds.length) * (b * (r * 2 ^ n + d).fdiv b) + 2 ^ (n * ds.length) * ((r * 2 ^ n + d).fmod b) := by
        rw [← Int.mul_add, ← Int.mul_add, hq]
      rw [Int.mul_comm ((r * 2 ^ n + d).fmod b)] at a5
      (first | lia | omega)

theorem run_conses {Φ : Phi} {Ψ : Psi} {nm : Names} {b : List Stmt} {ρ ρ₁ ρ₂ : Rho} {f : Flw} (k : Nat) {s : Stmt} {r : List Stmt} (e : b.drop k = s :: r) (h1 : Run Φ Ψ nm (.S s) ρ ρ₁ .next) (h2 : Run Φ Ψ nm (.B r) ρ₁ ρ₂ f) : Run Φ Ψ nm (.B (b.drop k)) ρ ρ₂ f := by
  rw [e]; exact .cons h1 h2

noncomputable abbrev dpρ (a b : Int) (n A r qs x y q : Slot) : Rho := [(Str.ofString "a", .val (.int a)), (Str.ofString "b", .val (.int b)), (Str.ofString "n", n), (Str.ofString "a_digits", A), (Str.ofString "r", r), (Str.ofString "q_digits", qs), (Str.ofString "a_digit", x), (Str.ofString "q_digit", y), (Str.ofString "q", q)]
theorem fDP_turn (Φ : Phi) (Ψ : Psi) (a b : Int) (n : Nat) (A : D) (r d : Int) (qs : List Int) (y : Slot) (hn : n ≤ 4000) (hr : log8 r = true) (hq : qs.length < line24) (hy : plain y)
    (hV : Φ (Str.ofString "_div2n1n") [.int (r * 2 ^ n + d), .int b, .int n] = some (.tup [.int ((r * 2 ^ n + d).fdiv b), .int ((r * 2 ^ n + d).fmod b)])) :
    Run Φ Ψ fDP.scope.names (.B (bodyOf (stAt fDP.body 4))) (dpρ a b (.val (.int n)) (.val A) (.val (.int r)) (.own (qs.map .int)) (.val (.int d)) y .unset)
      (dpρ a b (.val (.int n)) (.val A) (.val (.int ((r * 2 ^ n + d).fmod b))) (.own ((qs ++ [(r * 2 ^ n + d).fdiv b]).map .int)) (.val (.int d)) (.val (.int ((r * 2 ^ n + d).fdiv b))) .unset) .next := by
  conv => arg 3; whnf
  conv => arg 4; arg 1; whnf
  have h1 : n ≤ 100000 := by (first | lia | omega)
  have h2 : (qs.map D.int).length < line24 := by rw [List.length_map]; exact hq
  walk_at "R"

theorem natAbs_lt {x : Int} {k : Nat} (h0 : 0 ≤ x) (h : x < 2 ^ k) : x.natAbs < 2 ^ k := by
  have : (x.natAbs : Int) = x := Int.natAbs_of_nonneg h0
  rw [← this] at h
  exact_mod_cast h
theorem log8_lt {x : Int} {k : Nat} (h0 : 0 ≤ x) (h : x < 2 ^ k) (hk : k ≤ 8000) : log8 x = true :=
  log8_of (Nat.lt_of_lt_of_le (natAbs_lt h0 h) (Nat.pow_le_pow_right (by decide) hk))
theorem bits_lt {x : Int} {k : Nat} (h0 : 0 ≤ x) (h : x < 2 ^ k) : Builtin.Int.intBits x ≤ k := by
  unfold Builtin.Int.intBits
  split
  · exact Nat.zero_le _
  · rename_i hz
    have hne : x.natAbs ≠ 0 := by simpa using hz
    have := (Nat.log2_lt hne).mpr (natAbs_lt h0 h)
    (first | lia | omega)
theorem bits_pos {x : Int} (h : 0 < x) : 2 ^ (Builtin.Int.intBits x - 1) ≤ x ∧ 0 < Builtin.Int.intBits x := by
  unfold Builtin.Int.intBits
  split
  · rename_i hz
    have : x.natAbs = 0 := by simpa using hz
    (first | lia | omega)
  · rename_i hz
    have hne : x.natAbs ≠ 0 := by simpa using hz
    have h1 := Nat.log2_self_le hne
    have h2 : (x.natAbs : Int) = x := Int.natAbs_of_nonneg (Int.le_of_lt h)
    refine ⟨?_, Nat.succ_pos _⟩
    rw [Nat.add_sub_cancel, ← h2]
    exact_mod_cast h1

theorem fDP_loop (Φ : Phi) (Ψ : Psi) (a b : Int) (n : Nat) (A : D) (hn : n ≤ 4000) (hb : 0 < b) (hbn : b ≤ 2 ^ n)
    (hV : ∀ v, 0 ≤ v → v < b * 2 ^ n → Φ (Str.ofString "_div2n1n") [.int v, .int b, .int n] = some (.tup [.int (v.fdiv b), .int (v.fmod b)])) :
    ∀ (ds : List Int) (r : Int) (qs : List Int) (x y : Slot), plain x → plain y → 0 ≤ r → r < b → (∀ d ∈ ds, 0 ≤ d ∧ d < 2 ^ n) → qs.length + ds.length < line24 →
      ∃ x' y', plain x' ∧ plain y' ∧ Run Φ Ψ fDP.scope.names (.F (forT (stAt fDP.body 4)) (bodyOf (stAt fDP.body 4)) (ds.map .int)) (dpρ a b (.val (.int n)) (.val A) (.val (.int r)) (.own (qs.map .int)) x y .unset)
        (dpρ a b (.val (.int n)) (.val A) (.val (.int (ldiv n b r ds).2)) (.own ((qs ++ (ldiv n b r ds).1).map .int)) x' y' .unset) .next
  | [], r, qs, x, y, hx, hy, _, _, _, _ => ⟨x, y, hx, hy, by simp only [ldiv, List.append_nil, List.map_nil]; exact .fnil⟩
  | d :: ds, r, qs, x, y, hx, hy, h0, h1, hd, hl => by
    obtain ⟨d0, d1⟩ := hd d List.mem_cons_self
    have hp := pow_pos' n
    have hv0 : 0 ≤ r * 2 ^ n + d := by have := Int.mul_nonneg h0 (Int.le_of_lt hp); (first | lia | omega)
    have hv1 : r * 2 ^ n + d < b * 2 ^ n := by
      have := Int.mul_le_mul_of_nonneg_right (show r + 1 ≤ b by (first | lia | omega)) (Int.le_of_lt hp)
      rw [Int.add_mul, Int.one_mul] at this
      (first | lia | omega)
    rw [List.length_cons] at hl
    obtain ⟨x', y', hx', hy', run⟩ := fDP_loop Φ Ψ a b n A hn hb hbn hV ds ((r * 2 ^ n + d).fmod b) (qs ++ [(r * 2 ^ n + d).fdiv b]) (.val (.int d)) (.val (.int ((r * 2 ^ n + d).fdiv b))) (plain_val _) (plain_val _) (Int.fmod_nonneg_of_pos _ hb) (Int.fmod_lt_of_pos _ hb) (fun z hz => hd z (List.mem_cons_of_mem _ hz)) (by simp; (first | lia | omega))
    refine ⟨x', y', hx', hy', ?_⟩
    refine .fcons (ρ₁ := dpρ a b (.val (.int n)) (.val A) (.val (.int r)) (.own (qs.map .int)) (.val (.int d)) y .unset) ?_ ((fDP_turn Φ Ψ a b n A r d qs y hn (log8_lt h0 (Int.lt_of_lt_of_le h1 hbn) (by (first | lia | omega))) (by (first | lia | omega)) hy (hV _ hv0 hv1))) (.inl rfl) ?_
    · walk_at "A"
    · have e : qs ++ [(r * 2 ^ n + d).fdiv b] ++ (ldiv n b ((r * 2 ^ n + d).fmod b) ds).1 = qs ++ (ldiv n b r (d :: ds)).1 := by simp [ldiv]
      rw [e] at run
      exact run


theorem fDP_pre (Φ : Phi) (a b : Int) (ds : D) (hI : Φ (Str.ofString "_int2digits") [.int a, .int (Builtin.Int.intBits b)] = some ds) :
    Run Φ noΨ fDP.scope.names (.B (fDP.body.take 4)) (dpρ a b .unset .unset .unset .unset .unset .unset .unset)
      (dpρ a b (.val (.int (Builtin.Int.intBits b))) (.val ds) (.val (.int 0)) (.own []) .unset .unset .unset) .next := by
  conv => arg 3; whnf
  conv => arg 4; arg 1; whnf
  walk_at "R"
theorem fDP_post (Φ : Phi) (a b n r : Int) (A : D) (qs : List Int) (q : Int) (x y : Slot) (hx : plain x) (hy : plain y) (hD : Φ (Str.ofString "_digits2int") [zl qs, .int n] = some (.int q)) :
    ∃ ρ', Run Φ noΨ fDP.scope.names (.B (fDP.body.drop 6)) (dpρ a b (.val (.int n)) (.val A) (.val (.int r)) (.val (zl qs)) x y .unset) ρ' (.ret (.tup [.int q, .int r])) := by
  apply Exists.intro
  conv => arg 3; whnf
  conv => arg 4; arg 1; whnf
  walk_at "S"

theorem fDP_run (Φ : Phi) (a b : Int) (h0 : 0 ≤ a) (hb : 0 < b) (hb2 : b < 2 ^ 2900) (ha2 : a < 2 ^ 2900)
    (hI : Φ (Str.ofString "_int2digits") [.int a, .int (Builtin.Int.intBits b)] = some (zl (digs (Builtin.Int.intBits b) (nDig (Builtin.Int.intBits b) a) a)))
    (hV : ∀ v, 0 ≤ v → v < b * 2 ^ Builtin.Int.intBits b → Φ (Str.ofString "_div2n1n") [.int v, .int b, .int (Builtin.Int.intBits b)] = some (.tup [.int (v.fdiv b), .int (v.fmod b)]))
    (hD : ∀ qs : List Int, qs.length = nDig (Builtin.Int.intBits b) a → (∀ x ∈ qs, 0 ≤ x ∧ x < 2 ^ Builtin.Int.intBits b) → Φ (Str.ofString "_digits2int") [zl qs, .int (Builtin.Int.intBits b)] = some (.int (d2i (Builtin.Int.intBits b) qs))) :
    Rets Φ noΨ fDP [Str.ofString "a", Str.ofString "b"] [.int a, .int b] (.tup [.int (a.fdiv b), .int (a.fmod b)]) := by
  generalize hn : Builtin.Int.intBits b = n at *
  have hn1 : n ≤ 2900 := hn ▸ bits_lt (Int.le_of_lt hb) hb2
  have hn0 : 0 < n := hn ▸ (bits_pos hb).2
  have hbn : b ≤ 2 ^ n := hn ▸ Int.le_of_lt (bits_le (Int.le_of_lt hb))
  generalize hk : nDig n a = k at *
  have hk2 : k ≤ 6000 := by
    rw [← hk]; unfold nDig
    have := bits_lt h0 ha2
    exact Nat.le_trans (Nat.div_le_self _ _) (by (first | lia | omega))
  have hfit : a < 2 ^ (n * k) := hk ▸ nDig_fits hn0 h0
  have hdm := digs_mem n k a
  have hdl := digs_len n k a
  obtain ⟨x', y', hx', hy', run⟩ := fDP_loop Φ noΨ a b n (zl (digs n k a)) (by (first | lia | omega)) hb hbn hV (digs n k a).reverse 0 [] .unset .unset plain_unset plain_unset (Int.le_refl _) hb (fun d hd => hdm d (List.mem_reverse.mp hd)) (by simp [hdl, line24]; (first | lia | omega))
  obtain ⟨s1, s2, s3, s4, s5⟩ := ldiv_spec n b hb hbn (digs n k a).reverse 0 (Int.le_refl _) hb fun d hd => hdm d (List.mem_reverse.mp hd)
  generalize ldiv n b 0 (digs n k a).reverse = z at *
  rw [List.nil_append] at run
  rw [List.reverse_reverse, Int.zero_mul, Int.zero_add, d2i_digs n k a h0 hfit] at s5
  rw [List.length_reverse, hdl] at s4
  have hq := hD z.1.reverse (by simp [s4]) fun x hx => s3 x (List.mem_reverse.mp hx)
  have hdiv : a.fdiv b = d2i n z.1.reverse ∧ a.fmod b = z.2 := by
    have e1 : a / b = d2i n z.1.reverse := by
      rw [s5]
      rw [Int.add_comm, Int.add_mul_ediv_left _ _ (Int.ne_of_gt hb), Int.ediv_eq_zero_of_lt s1 s2, Int.zero_add]
    have e2 : a % b = z.2 := by
      rw [s5, Int.add_comm, Int.add_mul_emod_self_left, Int.emod_eq_of_lt s1 s2]
    rw [Int.fdiv_eq_ediv_of_nonneg _ (Int.le_of_lt hb), Int.fmod_eq_emod_of_nonneg _ (Int.le_of_lt hb)]
    exact ⟨e1, e2⟩
  rw [hdiv.1, hdiv.2]
  have hpost := fDP_post Φ a b n z.2 (zl (digs n k a)) z.1.reverse (d2i n z.1.reverse) x' y' hx' hy' hq
  obtain ⟨ρ', hp1⟩ := hpost
  refine ⟨ρ', ?_⟩
  rw [fDP_rho]
  refine run_split 4 ((hn ▸ fDP_pre Φ a b _ (hn.symm ▸ hI))) ?_
  refine run_conses 4 (s := stAt fDP.body 4) (r := fDP.body.drop 5) rfl (.for (ds := (digs n k a).reverse.map .int) rfl ?_ run) ?_
  · show Ev Φ fDP.scope.names _ (.I (forI (stAt fDP.body 4)) _)
    conv => arg 2; whnf
    conv => arg 4; arg 1; whnf
    rw [List.map_reverse]
    apply Ev.i_rev (by rfl) (by rfl)
    walk_at "E"
  refine run_conses 5 (s := stAt fDP.body 5) (r := fDP.body.drop 6) (ρ₁ := dpρ a b (.val (.int n)) (.val (zl (digs n k a))) (.val (.int z.2)) (.own (z.1.reverse.map .int)) x' y' .unset) rfl (?_) (.frz ?_)
  · rw [List.map_reverse]
    walk_at "S"
  · have e : froz (dpρ a b (.val (.int n)) (.val (zl (digs n k a))) (.val (.int z.2)) (.own (z.1.reverse.map .int)) x' y' .unset) = dpρ a b (.val (.int n)) (.val (zl (digs n k a))) (.val (.int z.2)) (.val (zl z.1.reverse)) x' y' .unset := by
      simp [froz, frozS_val, frozS_own, frozS_unset, hx'.z, hy'.z, zl]
    rw [e]
    exact hp1
end
section -- NH
theorem fID_rho (a b : Int) : rho0 fID.scope [Str.ofString "a", Str.ofString "b"] [.int a, .int b] = [(Str.ofString "a", .val (.int a)), (Str.ofString "b", .val (.int b)), (Str.ofString "q", .unset), (Str.ofString "r", .unset)] := by
  unfold rho0 cellKeys localKeys
  conv => lhs; simp only [show fID.scope.names = _ from by conv => lhs; whnf]
  simp [cellsFrom, List.lookup_cons, ofString_beq]

theorem fID_pos (Φ : Phi) (a b : Int) (t : D) (ha : 0 ≤ a) (hb : 0 < b) (h : Φ (Str.ofString "_divmod_pos") [.int a, .int b] = some t) : Rets Φ noΨ fID [Str.ofString "a", Str.ofString "b"] [.int a, .int b] t := by
  refine rets_of (fID_rho a b) ?_
  apply Exists.intro
  conv => arg 3; whnf
  conv => arg 4; arg 1; whnf
  have h1 : ¬ (b = 0) := by (first | lia | omega)
  have h2 : ¬ (b < 0) := by (first | lia | omega)
  have h3 : ¬ (a < 0) := by (first | lia | omega)
  walk_at "S"
theorem fID_neg (Φ : Phi) (a b q r : Int) (ha : a < 0) (hb : 0 < b) (h : Φ (Str.ofString "int_divmod") [.int (-a - 1), .int b] = some (.tup [.int q, .int r])) : Rets Φ noΨ fID [Str.ofString "a", Str.ofString "b"] [.int a, .int b] (.tup [.int (-q - 1), .int (b + (-r - 1))]) := by
  refine rets_of (fID_rho a b) ?_
  apply Exists.intro
  conv => arg 3; whnf
  conv => arg 4; arg 1; whnf
  have h1 : ¬ (b = 0) := by (first | lia | omega)
  have h2 : ¬ (b < 0) := by (first | lia | omega)
  walk_at "S"
theorem fID_bneg (Φ : Phi) (a b q r : Int) (hb : b < 0) (h : Φ (Str.ofString "int_divmod") [.int (-a), .int (-b)] = some (.tup [.int q, .int r])) : Rets Φ noΨ fID [Str.ofString "a", Str.ofString "b"] [.int a, .int b] (.tup [.int q, .int (-r)]) := by
  refine rets_of (fID_rho a b) ?_
  apply Exists.intro
  conv => arg 3; whnf
  conv => arg 4; arg 1; whnf
  have h1 : ¬ (b = 0) := by (first | lia | omega)
  walk_at "S"

theorem fdm_neg {a b : Int} (hb : 0 < b) : -((-a - 1).fdiv b) - 1 = a.fdiv b ∧ b + (-((-a - 1).fmod b) - 1) = a.fmod b := by
  rw [Int.fdiv_eq_ediv_of_nonneg _ (Int.le_of_lt hb), Int.fmod_eq_emod_of_nonneg _ (Int.le_of_lt hb), Int.fdiv_eq_ediv_of_nonneg _ (Int.le_of_lt hb), Int.fmod_eq_emod_of_nonneg _ (Int.le_of_lt hb)]
  have h1 := Int.emod_add_mul_ediv (-a - 1) b
  have h2 := Int.emod_nonneg (-a - 1) (Int.ne_of_gt hb)
  have h3 := Int.emod_lt_of_pos (-a - 1) hb
  generalize (-a - 1) / b = q at *
  generalize (-a - 1) % b = r at *
  have e : a = (b - 1 - r) + b * (-q - 1) := by
    rw [Int.mul_sub, Int.mul_one, Int.mul_neg]; (first | lia | omega)
  constructor
  · rw [e, Int.add_mul_ediv_left _ _ (Int.ne_of_gt hb), Int.ediv_eq_zero_of_lt (by (first | lia | omega)) (by (first | lia | omega))]; (first | lia | omega)
  · rw [e, Int.add_mul_emod_self_left, Int.emod_eq_of_lt (by (first | lia | omega)) (by (first | lia | omega))]; (first | lia | omega)
theorem fdm_bneg {a b : Int} (hb : b < 0) : (-a).fdiv (-b) = a.fdiv b ∧ -((-a).fmod (-b)) = a.fmod b := by
  have h1 : (-a).fdiv (-b) = a.fdiv b := Int.neg_fdiv_neg a b
  refine ⟨h1, ?_⟩
  have h2 := Int.mul_fdiv_add_fmod (-a) (-b)
  have h3 := Int.mul_fdiv_add_fmod a b
  rw [h1, Int.neg_mul] at h2
  (first | lia | omega)

noncomputable def FP : List D → Option D
  | [.int a, .int b] => if 0 ≤ a ∧ 0 < b ∧ b < 2 ^ 2900 ∧ a < 2 ^ 2900 then some (.tup [.int (a.fdiv b), .int (a.fmod b)]) else none
  | _ => none
noncomputable def FB : List D → Option D
  | [.int a, .int b] => if 0 < b ∧ b < 2 ^ 2900 ∧ -(2 ^ 2900) < a ∧ a < 2 ^ 2900 then some (.tup [.int (a.fdiv b), .int (a.fmod b)]) else none
  | _ => none
noncomputable def FM : List D → Option D
  | [.int a, .int b] => if b ≠ 0 ∧ -(2 ^ 2900) < b ∧ b < 2 ^ 2900 ∧ -(2 ^ 2900) < a ∧ a < 2 ^ 2900 then some (.tup [.int (a.fdiv b), .int (a.fmod b)]) else none
  | _ => none

/-- what the library's functions need of the program -/
structure Lib (prog : Program) (w : World) (p : Program) (loose : Heap → Prop) (mean : ExcName → Option Value) (mg mb : Str → Option Value) (cI tI cD tD : Addr) : Prop where
  Γ : Gx prog w p loose mean mg mb noΦ 0
  ΓO : GxO prog w p loose mean mg mb noΨ 0
  rI : fI2D ∈ recsOf p
  rD : fD2I ∈ recsOf p
  rV : fDV ∈ recsOf p
  rP : fDP ∈ recsOf p
  rM : fID ∈ recsOf p
  hI : (tI, Str.ofString "_int2digits.<locals>.inner") ∈ tabs
  hD : (tD, Str.ofString "_digits2int.<locals>.inner") ∈ tabs
  nI : ∀ h, loose h → NestFn mg fI2D cI tI h
  nD : ∀ h, loose h → NestFn mg fD2I cD tD h

section
variable {prog : Program} {w : World} {p : Program} {loose : Heap → Prop} {mean : ExcName → Option Value} {mg mb : Str → Option Value} {cI tI cD tD : Addr}

theorem toNat_cast {n : Int} (h : 0 ≤ n) : ((n.toNat : Nat) : Int) = n := Int.toNat_of_nonneg h

theorem Lib.i2dO (B : Lib prog w p loose mean mg mb cI tI cD tD) : ∀ ds d, FIo ds = some d → ∀ fv, mg fI2D.name = some fv → CallOwn prog w p loose mean mg mb 14 fv ds d := by
  intro ds d e fv hfv
  unfold FIo at e
  split at e
  · rename_i a n
    split at e
    · rename_i hc
      cases e
      obtain ⟨h0, h1, h2, h3, h4⟩ := hc
      have hn : ((n.toNat : Nat) : Int) = n := toNat_cast (Int.le_of_lt h1)
      have := i2d_call B.Γ B.ΓO B.hI B.nI (a := a) (n := n.toNat) h0 (by (first | lia | omega)) h3 h4 (by (first | lia | omega)) fv hfv
      rwa [hn] at this
    · cases e
  · cases e
theorem Lib.i2d (B : Lib prog w p loose mean mg mb cI tI cD tD) : ∀ ds d, FI ds = some d → ∀ fv, mg fI2D.name = some fv → CallOk prog w p loose mean mg mb 14 fv ds d := by
  intro ds d e fv hfv
  unfold FI at e
  split at e
  · rename_i a n
    split at e
    · rename_i hc
      cases e
      exact (B.i2dO [.int a, .int n] _ (by simp only [FIo]; rw [if_pos hc]) fv hfv).ok
    · cases e
  · cases e
theorem Lib.d2i (B : Lib prog w p loose mean mg mb cI tI cD tD) : ∀ ds d, FD ds = some d → ∀ fv, mg fD2I.name = some fv → CallOk prog w p loose mean mg mb 14 fv ds d := by
  intro ds d e fv hfv
  unfold FD at e
  split at e
  · rename_i l n
    obtain ⟨ns, hns, e⟩ := Option.bind_eq_some_iff.mp e
    split at e
    · rename_i hc
      cases e
      obtain ⟨h0, h1, h2, h3⟩ := hc
      have hn : ((n.toNat : Nat) : Int) = n := toNat_cast h0
      have := d2i_call B.Γ B.ΓO B.hD B.nD (ds := ns) (n := n.toNat) h1 h3 h2 fv hfv
      rw [hn] at this
      rw [intsOf_eq hns]
      exact this
    · cases e
  · cases e

theorem Rets.ok {Φ : Phi} {Ψ : Psi} {dep : Nat} {r : DefRec} {xs : List Str} {ds : List D} {d : D} (Γ : Gx prog w p loose mean mg mb Φ dep) (ΓO : GxO prog w p loose mean mg mb Ψ dep) (hr : r ∈ recsOf p) (hok : fnOk r.scope xs = true)
    (hb : ∀ pm code doc vs, vs.length = xs.length → bindArgs (docDef r.name r.params r.body r.scope pm code doc) ⟨vs, []⟩ = pure (xs.zip vs)) (hl : ds.length = xs.length) (h : Rets Φ Ψ r xs ds d) : ∀ fv, mg r.name = some fv → CallOk prog w p loose mean mg mb (dep + 1) fv ds d := by
  obtain ⟨ρ', run⟩ := h
  exact fn_sound Γ ΓO hr xs hok hb hl run

theorem Lib.dv (B : Lib prog w p loose mean mg mb cI tI cD tD) : ∀ ds d, FV ds = some d → ∀ fv, mg fDV.name = some fv → CallOk prog w p loose mean mg mb 14 fv ds d := by
  intro ds d e fv hfv
  unfold FV at e
  split at e
  · rename_i a b n
    split at e
    · rename_i hc
      cases e
      refine CallOk.mono (by decide) ((fDV_run noΦ noΨ a b n hc.1 hc.2.1 hc.2.2).ok B.Γ B.ΓO B.rV (by decide +kernel) (fun pm code doc vs hv => ?_) rfl fv hfv)
      match vs, hv with
      | [v1, v2, v3], _ => rfl
    · cases e
  · cases e

noncomputable def Φlib : Phi := addΦ "_int2digits" FI (addΦ "_digits2int" FD (addΦ "_div2n1n" FV noΦ))
theorem Lib.Γ1 (B : Lib prog w p loose mean mg mb cI tI cD tD) : Gx prog w p loose mean mg mb Φlib 14 :=
  (((B.Γ.mono' (Nat.zero_le _)).add B.rV rfl (by decide +kernel) B.dv).add B.rD rfl (by decide +kernel) B.d2i).add B.rI rfl (by decide +kernel) B.i2d

theorem Lib.dp (B : Lib prog w p loose mean mg mb cI tI cD tD) : ∀ ds d, FP ds = some d → ∀ fv, mg fDP.name = some fv → CallOk prog w p loose mean mg mb 15 fv ds d := by
  intro ds d e fv hfv
  unfold FP at e
  split at e
  · rename_i a b
    split at e
    · rename_i hc
      cases e
      obtain ⟨h0, hb, hb2, ha2⟩ := hc
      have hn1 : Builtin.Int.intBits b ≤ 2900 := bits_lt (Int.le_of_lt hb) hb2
      have hn0 : 0 < Builtin.Int.intBits b := (bits_pos hb).2
      have hk : nDig (Builtin.Int.intBits b) a ≤ 2900 := by
        unfold nDig
        have h1 := bits_lt h0 ha2
        have h2 : Builtin.Int.intBits a + Builtin.Int.intBits b - 1 ≤ 2900 * Builtin.Int.intBits b + (Builtin.Int.intBits b - 1) := by
          have := Nat.le_mul_of_pos_right 2900 hn0
          (first | lia | omega)
        have h3 := Nat.div_le_div_right (c := Builtin.Int.intBits b) h2
        rw [Nat.mul_comm, Nat.mul_add_div hn0, Nat.div_eq_of_lt (Nat.sub_lt hn0 (by decide))] at h3
        exact h3
      have hnk : Builtin.Int.intBits b * nDig (Builtin.Int.intBits b) a ≤ 7000 := by
        unfold nDig
        have h1 := bits_lt h0 ha2
        have := Nat.mul_div_le (Builtin.Int.intBits a + Builtin.Int.intBits b - 1) (Builtin.Int.intBits b)
        (first | lia | omega)
      refine (fDP_run Φlib a b h0 hb hb2 ha2 ?_ (fun v v0 v1 => ?_) (fun qs hl hq => ?_)).ok B.Γ1 (B.ΓO.mono' (Nat.zero_le _)) B.rP (by decide +kernel) (fun pm code doc vs hv => ?_) rfl fv hfv
      · simp only [Φlib, addΦ, if_true, FI, Int.toNat_natCast]
        rw [if_pos ⟨h0, by (first | lia | omega), by (first | lia | omega), hnk, by (first | lia | omega)⟩]
      · have hbb : b < 2 ^ Builtin.Int.intBits b := bits_le (Int.le_of_lt hb)
        have h1 : v < 2 ^ (Builtin.Int.intBits b + Builtin.Int.intBits b) := by
          rw [Int.pow_add]
          exact Int.lt_trans v1 (Int.mul_lt_mul_of_pos_right hbb (pow_pos' _))
        have h2 := bits_lt v0 h1
        simp only [Φlib, addΦ, ofString_eq, FV]
        rw [if_neg (by decide), if_neg (by decide), if_pos (by decide), if_pos ⟨hb, by (first | lia | omega), log8_lt (Int.le_of_lt hb) hb2 (by decide)⟩]
      · simp only [Φlib, addΦ, ofString_eq, FD, zl, intsOf_map, Option.bind_some, Int.toNat_natCast]
        rw [if_neg (by decide), if_pos (by decide), if_pos ⟨by (first | lia | omega), by rw [hl]; exact hnk, by rw [hl]; (first | lia | omega), hq⟩]
      · match vs, hv with
        | [v1, v2], _ => rfl
    · cases e
  · cases e

theorem Lib.dm (B : Lib prog w p loose mean mg mb cI tI cD tD) : ∀ ds d, FM ds = some d → ∀ fv, mg fID.name = some fv → CallOk prog w p loose mean mg mb 18 fv ds d := by
  have hbind : ∀ pm code doc vs, vs.length = [Str.ofString "a", Str.ofString "b"].length → bindArgs (docDef fID.name fID.params fID.body fID.scope pm code doc) ⟨vs, []⟩ = pure ([Str.ofString "a", Str.ofString "b"].zip vs) := by
    intro pm code doc vs hv
    match vs, hv with
    | [v1, v2], _ => rfl
  have hok : fnOk fID.scope [Str.ofString "a", Str.ofString "b"] = true := by decide +kernel
  -- both above nought
  have Γ2 : Gx prog w p loose mean mg mb (addΦ "_divmod_pos" FP noΦ) 15 := (B.Γ.mono' (Nat.zero_le _)).add B.rP rfl (by decide +kernel) B.dp
  have s1 : ∀ ds d, FP ds = some d → ∀ fv, mg fID.name = some fv → CallOk prog w p loose mean mg mb 16 fv ds d := by
    intro ds d e fv hfv
    have e' := e
    unfold FP at e
    split at e
    · rename_i a b
      split at e
      · rename_i hc
        cases e
        exact (fID_pos _ a b _ hc.1 hc.2.1 (by simp only [addΦ, if_true]; exact e')).ok Γ2 (B.ΓO.mono' (Nat.zero_le _)) B.rM hok hbind rfl fv hfv
      · cases e
    · cases e
  have Γ3 : Gx prog w p loose mean mg mb (addΦ "int_divmod" FP noΦ) 16 := (B.Γ.mono' (Nat.zero_le _)).add B.rM rfl (by decide +kernel) s1
  have s2 : ∀ ds d, FB ds = some d → ∀ fv, mg fID.name = some fv → CallOk prog w p loose mean mg mb 17 fv ds d := by
    intro ds d e fv hfv
    unfold FB at e
    split at e
    · rename_i a b
      split at e
      · rename_i hc
        cases e
        obtain ⟨hb, hb2, ha1, ha2⟩ := hc
        by_cases ha : 0 ≤ a
        · exact CallOk.mono (by decide) (s1 [.int a, .int b] _ (by simp only [FP]; rw [if_pos ⟨ha, hb, hb2, ha2⟩]) fv hfv)
        · have := (fID_neg (addΦ "int_divmod" FP noΦ) a b ((-a - 1).fdiv b) ((-a - 1).fmod b) (by (first | lia | omega)) hb (by simp only [addΦ, if_true, FP]; rw [if_pos ⟨by (first | lia | omega), hb, hb2, by (first | lia | omega)⟩])).ok Γ3 (B.ΓO.mono' (Nat.zero_le _)) B.rM hok hbind rfl fv hfv
          obtain ⟨e1, e2⟩ := fdm_neg (a := a) hb
          rwa [e1, e2] at this
      · cases e
    · cases e
  have Γ4 : Gx prog w p loose mean mg mb (addΦ "int_divmod" FB noΦ) 17 := (B.Γ.mono' (Nat.zero_le _)).add B.rM rfl (by decide +kernel) s2
  intro ds d e fv hfv
  unfold FM at e
  split at e
  · rename_i a b
    split at e
    · rename_i hc
      cases e
      obtain ⟨hb, hb1, hb2, ha1, ha2⟩ := hc
      by_cases hbp : 0 < b
      · exact CallOk.mono (by decide) (s2 [.int a, .int b] _ (by simp only [FB]; rw [if_pos ⟨hbp, hb2, ha1, ha2⟩]) fv hfv)
      · have hbn : b < 0 := by (first | lia | omega)
        have := (fID_bneg (addΦ "int_divmod" FB noΦ) a b ((-a).fdiv (-b)) ((-a).fmod (-b)) hbn (by simp only [addΦ, if_true, FB]; rw [if_pos ⟨by (first | lia | omega), by (first | lia | omega), by (first | lia | omega), by (first | lia | omega)⟩])).ok Γ4 (B.ΓO.mono' (Nat.zero_le _)) B.rM hok hbind rfl fv hfv
        obtain ⟨e1, e2⟩ := fdm_bneg (a := a) hbn
        rwa [e1, e2] at this
    · cases e
  · cases e
end
end
section -- NI
noncomputable def fPV : DefRec := fnIx pw 1

/-- a list's iterator -/
noncomputable def itO (o : Obj) (l : Addr) (i : Nat) : Prop := o.cls = .type "list_iterator" ∧ o.data = .fields #[.ref l, .int i 0]

/-! ## one number of a row of octets -/
noncomputable def pvL : List Int → Int → Int → Option (Int × List Int)
  | [], v, b => if b / 64 % 2 = 0 then some (v, []) else none
  | c :: r, v, b => if b / 64 % 2 = 0 then some (v, c :: r) else pvL r (v * 64 + c % 64) c
noncomputable def pv : List Int → Option (Int × List Int)
  | [] => none
  | b :: r => pvL r (b % 64) b
/-- how many octets the number that stands here takes -/
noncomputable def mr : List Int → Nat
  | [] => 0
  | c :: r => if c / 64 % 2 = 0 then 1 else mr r + 1
theorem pvL_stop {b : Int} (h : b / 64 % 2 = 0) (v : Int) : ∀ rest, pvL rest v b = some (v, rest)
  | [] => by simp [pvL, h]
  | c :: r => by simp [pvL, h]
theorem bitAnd_nat (a b : Nat) : Builtin.bitAnd a b = ((a &&& b : Nat) : Int) := by
  unfold Builtin.bitAnd; simp
theorem bitOr_nat (a b : Nat) : Builtin.bitOr a b = ((a ||| b : Nat) : Int) := by
  have hN : ∀ a : Nat, decide (0 ≤ Builtin.bitNot (a : Int)) = false := fun a => by
    unfold Builtin.bitNot; exact decide_eq_false (by (first | lia | omega))
  have hNN : ∀ a : Int, Builtin.bitNot (Builtin.bitNot a) = a := fun a => by unfold Builtin.bitNot; (first | lia | omega)
  unfold Builtin.bitOr
  rw [show Builtin.bitAnd (Builtin.bitNot a) (Builtin.bitNot b) = Builtin.bitNot ↑((Builtin.bitNot (Builtin.bitNot a)).toNat ||| (Builtin.bitNot (Builtin.bitNot b)).toNat) by
    conv => lhs; unfold Builtin.bitAnd
    rw [hN a, hN b], hNN, hNN, hNN]
  simp
theorem and63 {c : Int} (h : 0 ≤ c) : Builtin.bitAnd c 63 = c % 64 := by
  obtain ⟨n, rfl⟩ := Int.eq_ofNat_of_zero_le h
  rw [show (63 : Int) = ((63 : Nat) : Int) from rfl, bitAnd_nat, Nat.and_two_pow_sub_one_eq_mod n 6]
  (first | lia | omega)
theorem and64 {c : Int} (h : 0 ≤ c) : (Builtin.bitAnd c 64 != 0) = !decide (c / 64 % 2 = 0) := by
  obtain ⟨n, rfl⟩ := Int.eq_ofNat_of_zero_le h
  rw [show (64 : Int) = ((64 : Nat) : Int) from rfl, bitAnd_nat]
  have e : n &&& 64 = (n / 64 % 2) * 64 := by
    apply Nat.eq_of_testBit_eq
    intro i
    have h64 : (64 : Nat) = 2 ^ 6 := rfl
    rw [Nat.testBit_and, h64, Nat.testBit_two_pow, ← Nat.shiftLeft_eq, Nat.testBit_shiftLeft]
    have h2 : n / 2 ^ 6 % 2 = n / 2 ^ 6 % 2 ^ 1 := rfl
    rw [h2, Nat.testBit_mod_two_pow, ← Nat.shiftRight_eq_div_pow, Nat.testBit_shiftRight]
    by_cases hi : i = 6
    · subst hi; simp
    · have h6 : decide (6 = i) = false := decide_eq_false (fun q => hi q.symm)
      rw [h6]
      by_cases hj : 6 ≤ i
      · have : ¬ (i - 6 < 1) := by (first | lia | omega)
        simp [this]
      · simp [hj]
  rw [e]
  have : ((n : Int) / 64 % 2) = ((n / 64 % 2 : Nat) : Int) := by (first | lia | omega)
  rcases Nat.mod_two_eq_zero_or_one (n / 64) with h0 | h0 <;> rw [h0] <;> simp [this, h0]
theorem or64 {v c : Int} (h : 0 ≤ v) (hc : 0 ≤ c) : Builtin.bitOr (v * 2 ^ 6) (c % 64) = v * 64 + c % 64 := by
  obtain ⟨n, rfl⟩ := Int.eq_ofNat_of_zero_le h
  obtain ⟨k, rfl⟩ := Int.eq_ofNat_of_zero_le hc
  have e1 : ((n : Int) * 2 ^ 6) = ((2 ^ 6 * n : Nat) : Int) := by (first | lia | omega)
  have e2 : ((k : Int) % 64) = ((k % 64 : Nat) : Int) := by (first | lia | omega)
  rw [e1, e2, bitOr_nat, ← Nat.two_pow_add_eq_or_of_lt (show k % 64 < 2 ^ 6 from Nat.mod_lt _ (by decide))]
  (first | lia | omega)

section
variable {prog : Program} {w : World} {A : Around} {h₀ : Heap} {L : Stk} {p : Program} {loose : Heap → Prop} {mean : ExcName → Option Value} {mg mb : Str → Option Value} {A₀ : Around} {base : Heap} {outer : List Env} {env : Env} {dep : Nat} {Φ : Phi}
variable {m : Str → Option Value} {fx ext fz : Led} {s : Shared} {ρ ρ' : Rho}

theorem zl_list {h : Heap} {l : Addr} {zs : List Int} (G : Lg h₀ L m fx fz h) (r : Rep h₀ fz (.ref l) (zl zs)) : ∃ vs, h.IsList l vs ∧ vs.size = zs.length ∧ vs.size ≤ line24 ∧ (∀ (i : Nat) c, zs[i]? = some c → ∃ t, vs[i]? = some (.int c t)) := by
  cases r with
  | lst z c e hs rr =>
    rename_i o vs n
    refine ⟨vs, ⟨_, G.z z, c, _, e⟩, by have := rr.length; simpa using this, hs, fun i c hc => ?_⟩
    obtain ⟨v, hv, hr⟩ := rr.get i (d := .int c) (by simp [hc])
    cases hr
    exact ⟨_, by simpa using hv⟩

theorem next_stmt {x it : Str} {xp np ip cp pos : Pos} {I l : Addr} {oI : Obj} {i : Nat} {zs : List Int} {E : Value → Shared → Prop} {Q : Flow → Shared → Prop} (X : Fx p loose mean mg mb A₀ A base h₀ outer env L dep) (Γ : Gx prog w p loose mean mg mb Φ 0) (FX : FE env L)
    (hkn : env.scope.names.lookup (Str.ofString "next") = some .globalImplicit) (hit : ρ.lookup it = some (.raw (.ref I))) (H : Al h₀ fz env m ρ fx) (G : Lg h₀ L m (fx ++ (I, oI) :: ext) fz s.heap) (ho : itO oI l i) (hl : Rep h₀ fz (.ref l) (zl zs))
    (hsome : ∀ c, zs[i]? = some c → ∃ ρ', setV ρ x (.int c) = some ρ' ∧ ∀ h' tk' m' fx' oI', Lg h₀ L m' (fx' ++ (I, oI') :: ext) fz h' → Al h₀ fz env m' ρ' fx' → itO oI' l (i + 1) → Q .next { s with heap := h', toks := tk' })
    (hnone : zs[i]? = none → ∀ h1 e, (∀ b o, b ≠ I → s.heap.get? b = some o → h1.get? b = some o) → s.heap.get? e = none → Exc0 h1 e → E (.ref e) { s with heap := h1 }) :
    wpAny (model prog w) A (exec (.Assign [.Name x xp] (.Call (.Name (Str.ofString "next") np) [.Name it ip] [] cp) pos) env) Q E s := by
  obtain ⟨hdb, _, _, _, _, ⟨_, hk, hm⟩, _⟩ := H.all.split H.nd hit
  refine wpAny_Assign_Name (Call_Name_ (global_sound FX.O G X.T.g X.T.b hkn (by decide +kernel) (.inr ⟨Γ.nob _ (by decide), (X.T.builtins _ (by decide)).trans boot_next⟩) ?_)) rfl
  refine callWith_builtin rfl (evalArgs_all rfl (spliced_back_cons rfl (wpAny_Name (wpAny_loadName_local FX.O.k hk (FX.hl ▸ G.F.ns) hm (spliced_nil ?_)) hdb)))
  have hI : s.heap.IsListIter I l i := ⟨oI, G.fixed (by simp), ho.1, ho.2⟩
  obtain ⟨vs, hvl, hvs, hvz, hvi⟩ := zl_list G hl
  cases hz : zs[i]? with
  | some c =>
    obtain ⟨t, ht⟩ := hvi i c hz
    obtain ⟨ρ', hs, hq⟩ := hsome c hz
    refine next_item hI hvl ht fun h' hit' hsb => ?_
    obtain ⟨oI', hoI', hc', hd'⟩ := hit'
    have G' : Lg h₀ L m (fx ++ (I, oI') :: ext) fz h' := G.replace (fun b x hb ex => hsb.extBut b x hb ex) hoI'
    exact store_sound (s := { s with heap := h' }) FX H G' hs (.int c t) fun h2 tk2 m2 fx2 G2 H2 => hq h2 tk2 m2 fx2 oI' G2 H2 ⟨hc', hd'⟩
  | none =>
    have : vs[i]? = none := by
      rw [Array.getElem?_eq_none_iff]
      rw [List.getElem?_eq_none_iff] at hz
      (first | lia | omega)
    exact next_end X.hh hI hvl this (hnone hz)

/-! ## _parse_varint -/
noncomputable abbrev pρ (I : Addr) (b v : Slot) : Rho := [(Str.ofString "iterator", .raw (.ref I)), (Str.ofString "b", b), (Str.ofString "val", v)]
theorem fPV_names : fPV.scope.names = [(Str.ofString "iterator", .local), (Str.ofString "b", .local), (Str.ofString "val", .local), (Str.ofString "next", .globalImplicit)] := rfl

theorem fPV_s1 (Φ : Phi) (Ψ : Psi) (I : Addr) (b : Int) : Run Φ Ψ fPV.scope.names (.S (stAt fPV.body 1)) (pρ I (.val (.int b)) .unset)
      (pρ I (.val (.int b)) (.val (.int (Builtin.bitAnd b 63)))) .next := by
  conv => arg 3; whnf
  conv => arg 4; arg 1; whnf
  walk_at "R"
theorem fPV_t0 (Φ : Phi) (Ψ : Psi) (I : Addr) (b v : Int) (h : log8 v = true) : Run Φ Ψ fPV.scope.names (.S (stAt (bodyOf (stAt fPV.body 2)) 0)) (pρ I (.val (.int b)) (.val (.int v)))
      (pρ I (.val (.int b)) (.val (.int (v * 2 ^ 6)))) .next := by
  conv => arg 3; whnf
  conv => arg 4; arg 1; whnf
  have h1 : iopR .LShift (.int v, true) (.int 6, true) = some (.int (v * 2 ^ 6), true) := if_pos ⟨by decide, by decide, h⟩
  walk_at "R"
theorem fPV_t2 (Φ : Phi) (Ψ : Psi) (I : Addr) (b v : Int) : Run Φ Ψ fPV.scope.names (.S (stAt (bodyOf (stAt fPV.body 2)) 2)) (pρ I (.val (.int b)) (.val (.int v)))
      (pρ I (.val (.int b)) (.val (.int (Builtin.bitOr v (Builtin.bitAnd b 63))))) .next := by
  conv => arg 3; whnf
  conv => arg 4; arg 1; whnf
  walk_at "R"
theorem fPV_test (Φ : Phi) (I : Addr) (b v : Int) : Ev Φ fPV.scope.names (pρ I (.val (.int b)) (.val (.int v))) (.T (whT (stAt fPV.body 2)) (Builtin.bitAnd b 64 != 0)) := by
  conv => arg 2; whnf
  conv => arg 4; arg 1; whnf
  walk_at "V"
theorem fPV_ret (Φ : Phi) (Ψ : Psi) (I : Addr) (b v : Int) : Run Φ Ψ fPV.scope.names (.S (stAt fPV.body 3)) (pρ I (.val (.int b)) (.val (.int v)))
      (pρ I (.val (.int b)) (.val (.int v))) (.ret (.int v)) := by
  conv => arg 3; whnf
  conv => arg 4; arg 1; whnf
  walk_at "R"
end
end
section -- NJ
section
variable {prog : Program} {w : World} {A : Around} {h₀ : Heap} {L : Stk} {p : Program} {loose : Heap → Prop} {mean : ExcName → Option Value} {mg mb : Str → Option Value} {A₀ : Around} {base : Heap} {outer : List Env} {env : Env} {dep : Nat}

theorem fPV_while : stAt fPV.body 2 = .While (whT (stAt fPV.body 2)) (bodyOf (stAt fPV.body 2)) [] (stAt fPV.body 2).pos := rfl
theorem fPV_loop : bodyOf (stAt fPV.body 2) = [stAt (bodyOf (stAt fPV.body 2)) 0, stAt (bodyOf (stAt fPV.body 2)) 1, stAt (bodyOf (stAt fPV.body 2)) 2] := rfl

theorem pv_loop (X : Fx p loose mean mg mb A₀ A base h₀ outer env L dep) (Γ : Gx prog w p loose mean mg mb noΦ 0) (ΓO : GxO prog w p loose mean mg mb noΨ 0) (FX : FE env L) (hnm : env.scope.names = fPV.scope.names) {I l : Addr} {zs : List Int} (hpos : ∀ c ∈ zs, 0 ≤ c) :
    ∀ (rest : List Int) {i t : Nat} {v b : Int} {m : Str → Option Value} {fx ext fz : Led} {s : Shared} {oI : Obj} {R : Result → Shared → Prop}, rest = zs.drop i → i ≤ zs.length → 0 ≤ b → 0 ≤ v → v < 64 ^ t → t ≤ 1000 → (b / 64 % 2 ≠ 0 → t + mr rest ≤ 1000) → Al h₀ fz env m (pρ I (.val (.int b)) (.val (.int v))) fx → Lg h₀ L m (fx ++ (I, oI) :: ext) fz s.heap → itO oI l i → Rep h₀ fz (.ref l) (zl zs) →
      (∀ v' rest' j b' h' tk' m' fx' add oI', pvL rest v b = some (v', rest') → rest' = zs.drop j → j ≤ zs.length → Lg h₀ L m' (fx' ++ (I, oI') :: ext) (add ++ fz) h' → Off add fz → Al h₀ (add ++ fz) env m' (pρ I (.val (.int b')) (.val (.int v'))) fx' → itO oI' l j → R (.ok .next) { s with heap := h', toks := tk' }) →
      (∀ e a0 B h' tk' m' fx' add, pvL rest v b = none → Heap.HeldW B (env :: outer) e SI a0 L.a h' → Land B h' h₀ L m' (fx' ++ ext) (add ++ fz) → Off add fz → R (.error (.ref e)) { s with heap := h', toks := tk' }) →
      codeAny (model prog w) A (.whileLoop (whT (stAt fPV.body 2)) (bodyOf (stAt fPV.body 2)) [] env) R s := by
  intro rest
  induction rest with
  | nil =>
    intro i t v b m fx ext fz s oI R hr hi hb hv0 hv1 ht0 htm H G ho hl hok herr
    have HR := H.all.rho FX.hl ((I, oI) :: ext)
    have hil : i = zs.length := by
      have := congrArg List.length hr
      simp at this; (first | lia | omega)
    have hlog : log8 v = true := log8_lt (k := 6 * t) hv0 (by rw [Int.pow_mul]; exact hv1) (by (first | lia | omega))
    refine while_step (evT X (Γ.mono' (Nat.zero_le _)) FX.O (r := Builtin.bitAnd b 64 != 0) (ρ := pρ I (.val (.int b)) (.val (.int v))) (by rw [hnm]; exact fPV_test _ I b v) _ _ _ _ _ _ G HR fun tb h1 tk1 add1 G1 ho1 htb => ?_)
    rw [and64 hb] at htb
    subst htb
    by_cases hb0 : b / 64 % 2 = 0
    · simp only [hb0, decide_true, Bool.not_true, Bool.false_eq_true, if_false]
      exact wpAny_execs_nil (hok v [] i b h1 tk1 m fx add1 oI (pvL_stop hb0 v _) hr hi G1 (off_fz ho1) (H.grow add1) ho)
    · simp only [hb0, decide_false, Bool.not_false, if_true]
      have hpv : pvL [] v b = none := by simp [pvL, hb0]
      rw [fPV_loop]
      have r0 := (fPV_t0 noΦ noΨ I b v hlog)
      rw [← hnm] at r0
      refine wpAny_execs_cons (run_sound X (Γ.mono' (Nat.zero_le _)) (ΓO.mono' (Nat.zero_le _)) FX r0 _ fx ((I, oI) :: ext) _ _ _ _ (H.grow add1) G1 ?_)
      intro h2 tk2 m2 fx2 add2 G2 ho2 H2
      refine wpAny_execs_cons (next_stmt (zs := zs) (i := i) (l := l) X Γ FX (by rw [hnm]; rfl) rfl H2 G2 ho (hl.sub fun q hq => by simp [hq]) (fun c' hc' => ?_) (fun hn h3 e hk3 he3 hx3 => ?_))
      · rw [List.getElem?_eq_none (by (first | lia | omega))] at hc'; cases hc'
      · obtain ⟨B, hB, hBe, hBF, hLand⟩ := Lg.fly (G2.perm List.perm_middle) hk3 he3
        show wpAny _ A (noteFrame (.ref e) env) _ _ _
        refine note_first X hB hBe hBF hx3 fun a0 h4 hh hu => ?_
        have e1 : add2 ++ (add1 ++ fz) = (add2 ++ add1) ++ fz := by simp
        rw [e1] at hLand
        exact herr e a0 B h4 tk2 m2 fx2 (add2 ++ add1) hpv hh (fun h' a b => hLand h' a (hu.trans b)) (Off.append (ho2.sub fun q hq => List.mem_append_right _ hq) (off_fz ho1))
  | cons c rest ih =>
    intro i t v b m fx ext fz s oI R hr hi hb hv0 hv1 ht0 htm H G ho hl hok herr
    have HR := H.all.rho FX.hl ((I, oI) :: ext)
    have hci : zs[i]? = some c := by
      have := congrArg List.head? hr
      simpa [List.head?_drop] using this.symm
    have hrr : rest = zs.drop (i + 1) := by
      have := congrArg List.tail hr
      simpa [List.tail_drop] using this
    have hil : i < zs.length := by
      rcases Nat.lt_or_ge i zs.length with h | h
      · exact h
      · rw [List.drop_eq_nil_of_le h] at hr; cases hr
    have hc0 : 0 ≤ c := hpos c (List.mem_of_getElem? hci)
    have hlog : log8 v = true := log8_lt (k := 6 * t) hv0 (by rw [Int.pow_mul]; exact hv1) (by (first | lia | omega))
    refine while_step (evT X (Γ.mono' (Nat.zero_le _)) FX.O (r := Builtin.bitAnd b 64 != 0) (ρ := pρ I (.val (.int b)) (.val (.int v))) (by rw [hnm]; exact fPV_test _ I b v) _ _ _ _ _ _ G HR fun tb h1 tk1 add1 G1 ho1 htb => ?_)
    rw [and64 hb] at htb
    subst htb
    by_cases hb0 : b / 64 % 2 = 0
    · simp only [hb0, decide_true, Bool.not_true, Bool.false_eq_true, if_false]
      exact wpAny_execs_nil (hok v (c :: rest) i b h1 tk1 m fx add1 oI (pvL_stop hb0 v _) hr hi G1 (off_fz ho1) (H.grow add1) ho)
    · simp only [hb0, decide_false, Bool.not_false, if_true]
      have hpv : pvL (c :: rest) v b = pvL rest (v * 64 + c % 64) c := by simp [pvL, hb0]
      rw [fPV_loop]
      have r0 := (fPV_t0 noΦ noΨ I b v hlog)
      rw [← hnm] at r0
      refine wpAny_execs_cons (run_sound X (Γ.mono' (Nat.zero_le _)) (ΓO.mono' (Nat.zero_le _)) FX r0 _ fx ((I, oI) :: ext) _ _ _ _ (H.grow add1) G1 ?_)
      intro h2 tk2 m2 fx2 add2 G2 ho2 H2
      refine wpAny_execs_cons (next_stmt (zs := zs) (i := i) (l := l) X Γ FX (by rw [hnm]; rfl) rfl H2 G2 ho (hl.sub fun q hq => by simp [hq]) (fun c' hc' => ?_) (fun hn => by rw [hci] at hn; cases hn))
      rw [hci] at hc'
      cases hc'
      refine ⟨pρ I (.val (.int c)) (.val (.int (v * 2 ^ 6))), by simp [setV, upd, List.lookup_cons, ofString_beq, isFre_val, slotV_val], fun h3 tk3 m3 fx3 oI3 G3 H3 ho3 => ?_⟩
      have r2 := (fPV_t2 noΦ noΨ I c (v * 2 ^ 6))
      rw [← hnm, and63 hc0, or64 hv0 hc0] at r2
      refine wpAny_execs_cons (run_sound X (Γ.mono' (Nat.zero_le _)) (ΓO.mono' (Nat.zero_le _)) FX r2 _ fx3 ((I, oI3) :: ext) _ _ _ _ H3 G3 ?_)
      intro h4 tk4 m4 fx4 add4 G4 ho4 H4
      refine wpAny_execs_nil ?_
      have hcm : 0 ≤ c % 64 ∧ c % 64 < 64 := ⟨Int.emod_nonneg _ (by decide), Int.emod_lt_of_pos _ (by decide)⟩
      have htm' := htm hb0
      rw [mr] at htm'
      have hv2 : v * 64 + c % 64 < 64 ^ (t + 1) := by rw [Int.pow_succ]; (first | lia | omega)
      have e1 : add4 ++ (add2 ++ (add1 ++ fz)) = (add4 ++ (add2 ++ add1)) ++ fz := by simp
      have oA : Off (add4 ++ (add2 ++ add1)) fz := Off.append (ho4.sub fun q hq => by simp [hq]) (Off.append (ho2.sub fun q hq => by simp [hq]) (off_fz ho1))
      rw [e1] at G4 H4
      refine ih hrr hil hc0 (by (first | lia | omega)) hv2 (by split at htm' <;> (first | lia | omega)) (fun hc' => by rw [if_neg hc'] at htm'; (first | lia | omega)) H4 G4 ho3 (hl.sub fun q hq => List.mem_append_right _ hq) (fun v' rest' j b' h' tk' m' fx' add oI' hp hj hj2 G' ho' H' hi' => ?_) (fun e a0 B h' tk' m' fx' add hp hh ld ho' => ?_)
      · rw [← List.append_assoc] at G' H'
        exact hok v' rest' j b' h' tk' m' fx' _ oI' (hpv.trans hp) hj hj2 G' (Off.append (ho'.sub fun q hq => List.mem_append_right _ hq) oA) H' hi'
      · rw [← List.append_assoc] at ld
        exact herr e a0 B h' tk' m' fx' _ (hpv.trans hp) hh ld (Off.append (ho'.sub fun q hq => List.mem_append_right _ hq) oA)

theorem fPV_body : fPV.body = [stAt fPV.body 0, stAt fPV.body 1, stAt fPV.body 2, stAt fPV.body 3] := rfl

theorem pv_call {fenv : Env} (Γ : Gx prog w p loose mean mg mb noΦ 0) (ΓO : GxO prog w p loose mean mg mb noΨ 0) (hr : fPV ∈ recsOf p) {zs : List Int} (hz : ∀ i, mr (zs.drop i) ≤ 1000) (hpos : ∀ c ∈ zs, 0 ≤ c) {fv : Value} (hfv : mg fPV.name = some fv)
    {m : Str → Option Value} {fix fz : Led} {s : Shared} {I l : Addr} {oI : Obj} {i : Nat} {Q E : Value → Shared → Prop} (X : Fx p loose mean mg mb A₀ A base h₀ outer fenv L (dep + 1)) (G : Lg h₀ L m ((I, oI) :: fix) fz s.heap) (ho : itO oI l i) (hl : Rep h₀ fz (.ref l) (zl zs)) (hi : i ≤ zs.length)
    (hok : ∀ v t j h' tk' add oI', pv (zs.drop i) = some (v, zs.drop j) → j ≤ zs.length → Lg h₀ L m ((I, oI') :: fix) (add ++ fz) h' → Off add (fix ++ fz) → itO oI' l j → Q (.int v t) { s with heap := h', toks := tk' })
    (herr : ∀ e a0 B h' tk' add, pv (zs.drop i) = none → Heap.FlyingW B (fenv :: outer) e SI a0 h' → Land B h' h₀ L m fix (add ++ fz) → Off add fz → E (.ref e) { s with heap := h', toks := tk' }) :
    wpAny (model prog w) A (call fv [.ref I]) Q E s := by
  obtain ⟨a, o, pm, code, doc, hmg, hob, hfd, hcd⟩ := X.T.fn fPV hr
  rw [hmg] at hfv
  cases hfv
  refine wpAny_call (my_call X G (G.F.keep _ _ hob) hfd (hcd.keeps G.F.keep) (binds := [(Str.ofString "iterator", .ref I)]) (BindsTo.of_eq rfl) (kindsX rfl) (by decide +kernel) (fun L' h₁ tk cells LG Y FX => ?_) rfl rfl rfl)
  have hcells : cells = [] := by
    have : cellsFrom (L' + 1) fPV.scope.names [] = [] := by rw [fPV_names]; rfl
    rw [this] at Y
    cases Y; rfl
  subst hcells
  have FE' : FE (envOfC fPV.name fPV.scope L' a code) ⟨L', (L.a, m) :: L.up⟩ := envOfC_ok rfl
  have H0 : Al h₀ fz (envOfC fPV.name fPV.scope L' a code) (bindL (envOfC fPV.name fPV.scope L' a code).kindOf [(Str.ofString "iterator", .ref I)] fun _ => none) (pρ I .unset .unset) [] := by
    refine ⟨show List.Nodup [Str.ofString "iterator", Str.ofString "b", Str.ofString "val"] by decide +kernel, ?_⟩
    refine .cons (l := []) (by decide +kernel) ⟨rfl, rfl, rfl⟩ (.cons (l := []) (by decide +kernel) ⟨rfl, rfl⟩ (.cons (l := []) (by decide +kernel) ⟨rfl, rfl⟩ .nil))
  have exitL : ∀ {B h' : Heap} {m' : Str → Option Value} {fx' fz' : Led}, Land B h' h₀ ⟨L', (L.a, m) :: L.up⟩ m' (fx' ++ fix) fz' → Land B h' h₀ L m fix fz' := fun ld h'' b u => G.exit (ld h'' b u)
  rw [fPV_body]
  refine wpAny_execs_cons (next_stmt (zs := zs) (i := i) (l := l) (fx := []) (ext := fix) FX Γ FE' rfl rfl H0 LG ho hl (fun c hc => ?_) (fun hn h3 e hk3 he3 hx3 => ?_))
  · refine ⟨pρ I (.val (.int c)) .unset, by simp [setV, upd, List.lookup_cons, ofString_beq, isFre_unset, slotV_unset], fun h2 tk2 m2 fx2 oI2 G2 H2 ho2 => ?_⟩
    have hc0 : 0 ≤ c := hpos c (List.mem_of_getElem? hc)
    have hil : i < zs.length := by
      rcases Nat.lt_or_ge i zs.length with h | h
      · exact h
      · rw [List.getElem?_eq_none h] at hc; cases hc
    have hdr : zs.drop i = c :: zs.drop (i + 1) := by
      rw [List.drop_eq_getElem_cons hil]
      congr 1
      rw [List.getElem?_eq_getElem hil] at hc
      exact Option.some.inj hc
    have hpv : pv (zs.drop i) = pvL (zs.drop (i + 1)) (c % 64) c := by rw [hdr]; rfl
    have r1 := (fPV_s1 noΦ noΨ I c)
    rw [and63 hc0] at r1
    refine wpAny_execs_cons (run_sound FX (Γ.mono' (Nat.zero_le _)) (ΓO.mono' (Nat.zero_le _)) FE' r1 _ fx2 ((I, oI2) :: fix) _ _ _ _ H2 G2 ?_)
    intro h3 tk3 m3 fx3 add3 G3 ho3 H3
    have hcm : 0 ≤ c % 64 ∧ c % 64 < 64 := ⟨Int.emod_nonneg _ (by decide), Int.emod_lt_of_pos _ (by decide)⟩
    have hv1 : c % 64 < 64 ^ 1 := by (first | lia | omega)
    refine wpAny_execs_cons ?_
    rw [fPV_while]
    refine wpAny_While (pv_loop FX Γ ΓO FE' rfl hpos (zs.drop (i + 1)) (t := 1) rfl hil hc0 hcm.1 hv1 (by decide) (fun hc' => by have := hz i; rw [hdr, mr, if_neg hc'] at this; (first | lia | omega)) H3 G3 ho2 (hl.sub fun q hq => List.mem_append_right _ hq) (fun v' rest' j b' h4 tk4 m4 fx4 add4 oI4 hp hj hj2 G4 ho4 H4 hi4 => ?_) (fun e a0 B h4 tk4 m4 fx4 add4 hp hh ld ho4 => ?_))
    · refine wpAny_execs_cons (run_sound FX (Γ.mono' (Nat.zero_le _)) (ΓO.mono' (Nat.zero_le _)) FE' ((fPV_ret noΦ noΨ I b' v')) _ fx4 ((I, oI4) :: fix) _ _ _ _ H4 G4 ?_)
      intro v5 h5 tk5 m5 fx5 add5 G5 ho5 hr5
      cases hr5
      have e1 : add5 ++ (add4 ++ (add3 ++ fz)) = (add5 ++ (add4 ++ add3)) ++ fz := by simp
      rw [e1] at G5
      have oA : Off (add5 ++ (add4 ++ add3)) fz := Off.append (ho5.sub fun q hq => by simp [hq]) (Off.append (ho4.sub fun q hq => by simp [hq]) ho3)
      refine ⟨m5, fx5, (I, oI4) :: fix, _, G5, fun LGc => hok v' _ j h5 _ _ oI4 (by rw [hpv, hp, hj]) hj2 LGc ?_ hi4⟩
      have := off_of G5 oA
      exact this.sub fun q hq => by
        rcases List.mem_append.mp hq with h | h
        · exact List.mem_append_left _ (List.mem_cons_of_mem _ h)
        · exact List.mem_append_right _ h
    · refine came_back FX.hf hh fun h5 hh5 hu5 => ?_
      refine leave_held FX hh5 fun h6 hf6 hu6 => ?_
      have e1 : add4 ++ (add3 ++ fz) = (add4 ++ add3) ++ fz := by simp
      rw [e1] at ld
      exact herr e a0 B h6 _ _ (hpv.trans hp) hf6 (exitL ((ld.next hu5).next hu6)) (Off.append (ho4.sub fun q hq => List.mem_append_right _ hq) ho3)
  · obtain ⟨B, hB, hBe, hBF, hLand⟩ := Lg.fly LG hk3 he3
    refine leave_first FX hB hBe hBF hx3 fun a0 h4 hf4 hu4 => ?_
    have hd : zs.drop i = [] := by
      rw [List.getElem?_eq_none_iff] at hn
      exact List.drop_eq_nil_of_le hn
    have ld : Land B h4 h₀ ⟨L', (L.a, m) :: L.up⟩ _ ([] ++ fix) fz := fun h' b u => hLand h' b (hu4.trans u)
    exact herr e a0 B h4 _ [] (by rw [hd]; rfl) hf4 (exitL ld) Off.nil
end
end
section -- NK
theorem lookup_upd : ∀ {ρ : Rho} {x : Str} {t : Slot} (a : Slot), ρ.lookup x = some t → (upd ρ x a).lookup x = some a
  | (z, u) :: r, x, t, a, h => by
    unfold upd
    by_cases hx : x = z
    · subst hx; simp [List.lookup_cons]
    · have hb : (x == z) = false := by simpa using hx
      rw [List.lookup_cons, hb] at h
      simp only [hb, Bool.false_eq_true, if_false, List.lookup_cons]
      exact lookup_upd a h

section
variable {prog : Program} {w : World} {A : Around} {h₀ : Heap} {L : Stk} {p : Program} {loose : Heap → Prop} {mean : ExcName → Option Value} {mg mb : Str → Option Value} {A₀ : Around} {base : Heap} {outer : List Env} {env : Env} {dep : Nat}
variable {m : Str → Option Value} {fx ext fz : Led} {s : Shared} {ρ ρ' : Rho}

theorem store_raw {E : Value → Shared → Prop} {x : Str} {v : Value} {Q : Unit → Shared → Prop} (X : FE env L) (H : Al h₀ fz env m ρ fx) (G : Lg h₀ L m (fx ++ ext) fz s.heap) (hx : isLoc ρ x = true)
    (h : ∀ h' tk' m' fx', Lg h₀ L m' (fx' ++ ext) fz h' → Al h₀ fz env m' (upd ρ x (.raw v)) fx' → Q () { s with heap := h', toks := tk' }) : wpAny (model prog w) A (storeName env x v) Q E s := by
  unfold isLoc at hx
  split at hx
  · cases hx
  · cases hx
  · rename_i t ht hnf hc
    obtain ⟨hd, p1, l, p2, rfl, h1, k⟩ := H.all.split H.nd hc
    have hkl := slot_local h1 (fun d' e => by subst e; exact ht _ rfl) (by cases t <;> first | rfl | exact absurd rfl (hnf _))
    have G2 : Lg h₀ L m (p1 ++ p2 ++ ext) fz s.heap := (G.perm (led_swap p1 l p2 ext)).drop
    refine wpAny_storeName_local hkl (X.hl ▸ G2.F.ns) (fun h3 hn3 hs3 => ?_) X.hp
    rw [X.hl] at hn3 hs3
    have G3 := G2.frame hs3 hn3
    refine h h3 _ _ (p1 ++ ([] ++ p2)) (by simpa using G3) ⟨by rw [upd_keys]; exact H.nd, ?_⟩
    exact k _ fz _ [] (fun y hy => by simp [hy]) (fun _ h => h) ⟨rfl, hkl, by simp⟩
  · cases hx

theorem call_iter {E : Value → Shared → Prop} {l : Addr} {vs : Array Value} {Q : Value → Shared → Prop} (hl : s.heap.IsList l vs)
    (h : Q (.ref s.heap.objs.size) { s with heap := s.heap.push { cls := .type "list_iterator", data := .fields #[.ref l, .int 0 0] } }) : wpAny (model prog w) A (call (.builtin "iter") [.ref l]) Q E s := by
  refine call_function_entry (by decide +kernel) (by decide +kernel) kdk_entry_iter (kdk_args_iter _) ?_
  unfold Builtin.«iter»
  refine wpAny_bind (m := someArgs "iter" 1 2 _) (wpAny_of_eq (a := [Value.ref l]) (by first | rfl | kernel_rfl!) ?_)
  show wpAny _ _ (pyIter (.ref l) >>= _) _ _ _
  refine wpAny_bind (wpAny_pyIter_list hl ?_)
  exact wpAny_pure ⟨_, rfl, h⟩

theorem iter_stmt {x oc : Str} {xp np ip cp pos : Pos} {zs : List Int} {E : Value → Shared → Prop} {Q : Flow → Shared → Prop} {Φ : Phi} (X : Fx p loose mean mg mb A₀ A base h₀ outer env L dep) (Γ : Gx prog w p loose mean mg mb Φ 0) (FX : FE env L)
    (hkn : env.scope.names.lookup (Str.ofString "iter") = some .globalImplicit) (hoc : ρ.lookup oc = some (.val (zl zs))) (hx : isLoc ρ x = true) (H : Al h₀ fz env m ρ fx) (G : Lg h₀ L m (fx ++ ext) fz s.heap)
    (h : ∀ I oI l h' tk' m' fx', Lg h₀ L m' (fx' ++ (I, oI) :: ext) fz h' → Al h₀ fz env m' (upd ρ x (.raw (.ref I))) fx' → itO oI l 0 → Rep h₀ fz (.ref l) (zl zs) → Q .next { s with heap := h', toks := tk' }) :
    wpAny (model prog w) A (exec (.Assign [.Name x xp] (.Call (.Name (Str.ofString "iter") np) [.Name oc ip] [] cp) pos) env) Q E s := by
  obtain ⟨hdb, _, _, _, _, ⟨_, hk, v, hm, hrep⟩, _⟩ := H.all.split H.nd hoc
  refine wpAny_Assign_Name (Call_Name_ (global_sound FX.O G X.T.g X.T.b hkn (by decide +kernel) (.inr ⟨Γ.nob _ (by decide), (X.T.builtins _ (by decide)).trans boot_iter⟩) ?_)) rfl
  refine callWith_builtin rfl (evalArgs_all rfl (spliced_back_cons rfl (wpAny_Name (wpAny_loadName_local FX.O.k hk (FX.hl ▸ G.F.ns) hm (spliced_nil ?_)) hdb)))
  obtain ⟨l, rfl⟩ : ∃ l, v = .ref l := by
    have hrep' : Rep h₀ fz v (.lst (zs.map .int)) := hrep
    cases hrep'; exact ⟨_, rfl⟩
  obtain ⟨vs, hvl, _⟩ := zl_list G hrep
  refine call_iter hvl ?_
  have G1 : Lg h₀ L m ((s.heap.objs.size, { cls := .type "list_iterator", data := .fields #[.ref l, .int 0 0] }) :: (fx ++ ext)) fz (s.heap.push { cls := .type "list_iterator", data := .fields #[.ref l, .int 0 0] }) :=
    G.newFix (fun b x e => Heap.get?_push_of_some _ e) (Heap.get?_push_size _ rfl) (Nat.le_refl _)
  exact store_raw (s := { s with heap := s.heap.push { cls := .type "list_iterator", data := .fields #[.ref l, .int 0 0] } }) FX H (G1.perm List.perm_middle.symm) hx fun h2 tk2 m2 fx2 G2 H2 => h _ _ l h2 tk2 m2 fx2 G2 H2 ⟨rfl, rfl⟩ hrep
end
end
section -- NL
noncomputable abbrev siS : Str := Str.ofString "StopIteration"
theorem boot_si : bootBuiltins siS = some SI := by decide +kernel

theorem lookup_froz : ∀ {ρ : Rho} {x : Str} {t : Slot}, ρ.lookup x = some t → (froz ρ).lookup x = some (frozS t)
  | (z, u) :: r, x, t, h => by
    show List.lookup x ((z, frozS u) :: froz r) = _
    rw [List.lookup_cons] at h ⊢
    cases hb : (x == z) with
    | true => rw [hb] at h; simp at h ⊢; rw [h]
    | false => rw [hb] at h; exact lookup_froz h

section
variable {prog : Program} {w : World} {A : Around} {h₀ : Heap} {L : Stk} {p : Program} {loose : Heap → Prop} {mean : ExcName → Option Value} {mg mb : Str → Option Value} {A₀ : Around} {base : Heap} {outer : List Env} {env : Env} {dep : Nat}

theorem try_turn {told so : Str} {p1 p2 p3 p4 p5 p6 p7 p8 p9 q1 q2 q3 : Pos} {ρ : Rho} {l : List D} {I lz : Addr} {oI : Obj} {i : Nat} {zs : List Int} {m : Str → Option Value} {fx ext fz : Led} {s : Shared} {E : Value → Shared → Prop} {Q : Flow → Shared → Prop}
    (X : Fx p loose mean mg mb A₀ A base h₀ outer env L (dep + 1)) (Γ : Gx prog w p loose mean mg mb noΦ 0) (ΓO : GxO prog w p loose mean mg mb noΨ 0) (hr : fPV ∈ recsOf p) (hsi : mg siS = none) (FX : FE env L)
    (hkn : env.scope.names.lookup fPV.name = some .globalImplicit) (hks : env.scope.names.lookup siS = some .globalImplicit) (hp : p2.endLine = p6.line)
    (hz : ∀ i, mr (zs.drop i) ≤ 1000) (hpos : ∀ c ∈ zs, 0 ≤ c) (hso : ρ.lookup so = some (.raw (.ref I))) (htold : ρ.lookup told = some (.own l)) (hlen : l.length < line24)
    (H : Al h₀ fz env m ρ fx) (G : Lg h₀ L m (fx ++ (I, oI) :: ext) fz s.heap) (ho : itO oI lz i) (hl : Rep h₀ fz (.ref lz) (zl zs)) (hi : i ≤ zs.length)
    (hok : ∀ v j h' tk' fx' add oI', pv (zs.drop i) = some (v, zs.drop j) → j ≤ zs.length → Lg h₀ L m (fx' ++ (I, oI') :: ext) (add ++ fz) h' → Off add fz → Al h₀ (add ++ fz) env m (upd ρ told (.own (l ++ [.int v]))) fx' → itO oI' lz j → Q .next { s with heap := h', toks := tk' })
    (hret : pv (zs.drop i) = none → ∀ v h' tk' m' fx' add, Lg h₀ L m' (fx' ++ ext) (add ++ fz) h' → Off add fz → Rep h₀ (add ++ fz) v (.lst l) → Q (.ret v) { s with heap := h', toks := tk' }) :
    wpAny (model prog w) A (exec (.Try [.Expr (.Call (.Attribute (.Name told p1) (Str.ofString "append") p2) [.Call (.Name fPV.name p3) [.Name so p4] [] p5] [] p6) p7] [.ExceptHandler (some (.Name siS p8)) none [.Return (some (.Name told p9)) q1] q2] [] [] q3) env) Q E s := by
  obtain ⟨hdb, a, vs, k, f1, f2, rfl, hk, hm, hz', hrep, kk⟩ := own_change H htold
  obtain ⟨hdbs, _, _, _, _, ⟨_, hks', hms⟩, _⟩ := H.all.split H.nd hso
  obtain ⟨af, of, pm, code, doc, hmg, hob, hfd, hcd⟩ := X.T.fn fPV hr
  have pmI : (f1 ++ ([(a, lo vs k)] ++ f2) ++ (I, oI) :: ext).Perm ((I, oI) :: (f1 ++ ([(a, lo vs k)] ++ f2) ++ ext)) := List.perm_middle
  have ha : s.heap.get? a = some (lo vs k) := G.fixed (by simp)
  refine wpAny_Try_except (wpAny_execs_cons (expr_none FX.O rfl (method_eval hp rfl (wpAny_Name (wpAny_loadName_local FX.O.k hk (FX.hl ▸ G.F.ns) hm ?_) hdb))))
  refine getMethod_list_append ha rfl rfl ?_
  refine callWith_builtin rfl (evalArgs_all rfl (spliced_back_cons rfl (Call_Name_ (global_sound FX.O G X.T.g X.T.b hkn (by decide +kernel) (.inl hmg) ?_))))
  refine callWith_function (o := of) (evalArgs_all rfl (spliced_back_cons rfl (wpAny_Name (wpAny_loadName_local FX.O.k hks' (FX.hl ▸ G.F.ns) hms (spliced_nil ⟨⟨G.F.keep _ _ hob, hfd⟩, ?_⟩)) hdbs)))
  refine pv_call Γ ΓO hr hz hpos hmg X (G.perm pmI) ho hl hi (fun v t j h' tk' add oI' hpv hj G1 ho1 hi1 => ?_) (fun e a0 B h1 tk1 add hpv hfl ld ho1 => ?_)
  · have G1' : Lg h₀ L m (f1 ++ ([(a, lo vs k)] ++ f2) ++ (I, oI') :: ext) (add ++ fz) h' := G1.perm List.perm_middle.symm
    refine spliced_nil ?_
    refine append_at (its := vs.toArray) (n := k) (G1'.fixed (by simp)) (fun h2 hs2 hD => ⟨rfl, ?_⟩) (by rw [List.size_toArray]; exact Nat.le_trans hz' line24_le)
    have e1 : f1 ++ ([(a, lo vs k)] ++ f2) ++ (I, oI') :: ext = f1 ++ (a, lo vs k) :: (f2 ++ (I, oI') :: ext) := by simp
    have G2 : Lg h₀ L m (f1 ++ (a, lo (vs ++ [.int v t]) (k + 1)) :: (f2 ++ (I, oI') :: ext)) (add ++ fz) h2 := Lg.replace (e1 ▸ G1') (fun b y hb ey => hs2.extBut b y hb ey) (by rw [hD, List.push_toArray])
    refine wpAny_execs_nil (wpAny_execs_nil (hok v j h2 _ (f1 ++ ([(a, lo (vs ++ [.int v t]) (k + 1))] ++ f2)) add oI' hpv hj (by simpa using G2) (off_fz ho1) ?_ hi1))
    refine kk _ _ _ _ (fun q hq => List.mem_append_right _ hq) ?_ ((hrep.sub fun q hq => List.mem_append_right _ hq).append (.cons (.int _ _) .nil))
    rw [List.length_append, hrep.length]
    exact hlen
  · refine wpAny_looks_onW X.hA X.hf hfl fun h2 hh2 hu2 => wpAny_landsW hh2 fun h3 hf3 hu3 => ?_
    have ld3 := (ld.next hu2).next hu3
    have G3 := ld3 h3 hf3.1 (Heap.UpToSlots.refl _)
    refine wpAny_handleBy_builtin (X := "StopIteration") (T := "StopIteration") (b := true) (by first | rfl | decide +kernel | kernel_rfl!) (by first | rfl | decide +kernel | kernel_rfl!) (by first | rfl | decide +kernel | kernel_rfl!) ?_
    refine global_sound (s := ⟨h3, s.gens, s.drawn, tk1, s.os⟩) FX.O G3 X.T.g X.T.b hks (by decide +kernel) (.inr ⟨hsi, (X.T.builtins _ (by decide)).trans boot_si⟩) ⟨rfl, ?_, ?_⟩
    · obtain ⟨ob, h5, h6⟩ := hf3.there
      exact ⟨ob, h5, h6⟩
    · rw [if_pos rfl]
      obtain ⟨g1, g2, g3, g4⟩ := hf3
      refine wpAny_setFlight_noneW (fl := .none) g1 g3 g4.at fun h4 k1 k2 k3 k4 => ?_
      have G4 := ld3 h4 k1 fun b o hb hn => ⟨o.slots, k4 b o hb hn⟩
      obtain ⟨ad4, kp, pm4, k4'⟩ := (H.grow add).all.froz
      have pm' : (f1 ++ ([(a, lo vs k)] ++ f2) ++ ext).Perm (ad4 ++ (kp ++ ext)) := by rw [← List.append_assoc ad4]; exact pm4.append_right ext
      obtain ⟨G5, ho5⟩ := (G4.perm pm').freezes
      have A5 := k4' (ad4 ++ (add ++ fz)) (fun q hq => List.mem_append_right _ hq) fun q hq => List.mem_append_left _ hq
      obtain ⟨hdb6, _, _, _, _, ⟨_, hk6, v6, hm6, hr6⟩, _⟩ := A5.split (by rw [froz_keys]; exact H.nd) (lookup_froz htold)
      refine wpAny_execs_cons (wpAny_Return_some (wpAny_Name (wpAny_loadName_local FX.O.k hk6 (FX.hl ▸ G5.F.ns) hm6 ?_) hdb6))
      have e1 : ad4 ++ (add ++ fz) = (ad4 ++ add) ++ fz := by simp
      exact hret hpv v6 h4 _ m kp (ad4 ++ add) (e1 ▸ G5) (Off.append (ho5.sub fun q hq => List.mem_append_right _ (List.mem_append_right _ hq)) ho1) (e1 ▸ hr6)
end
end
section -- NM
/-- the numbers of a row of octets, read by a running number -/
noncomputable def nums : Int → List Int → List Int
  | _, [] => []
  | v, b :: r => if b / 64 % 2 = 0 then (v * 64 + b % 64) :: nums 0 r else nums (v * 64 + b % 64) r
theorem pvL_nums : ∀ (r : List Int) (v b : Int), (∀ x r', pvL r v b = some (x, r') → (if b / 64 % 2 = 0 then v :: nums 0 r else nums v r) = x :: nums 0 r' ∧ r'.length ≤ r.length) ∧ (pvL r v b = none → (if b / 64 % 2 = 0 then v :: nums 0 r else nums v r) = [])
  | [], v, b => by
    unfold pvL
    by_cases h : b / 64 % 2 = 0
    · simp [h, nums]
    · simp [h, nums]
  | c :: r, v, b => by
    obtain ⟨ih1, ih2⟩ := pvL_nums r (v * 64 + c % 64) c
    unfold pvL
    by_cases h : b / 64 % 2 = 0
    · simp only [h, if_true]
      refine ⟨fun x r' e => ?_, fun e => nomatch e⟩
      cases e
      exact ⟨rfl, Nat.le_refl _⟩
    · simp only [h, if_false, nums]
      exact ⟨fun x r' e => ⟨(ih1 x r' e).1, Nat.le_succ_of_le (ih1 x r' e).2⟩, ih2⟩
theorem pv_some {l r : List Int} {v : Int} (h : pv l = some (v, r)) : nums 0 l = v :: nums 0 r ∧ r.length < l.length := by
  cases l with
  | nil => cases h
  | cons b l =>
    have := (pvL_nums l (b % 64) b).1 v r h
    refine ⟨?_, Nat.lt_succ_of_le this.2⟩
    show (if b / 64 % 2 = 0 then (0 * 64 + b % 64) :: nums 0 l else nums (0 * 64 + b % 64) l) = _
    rw [Int.zero_mul, Int.zero_add]
    exact this.1
theorem pv_none {l : List Int} (h : pv l = none) : nums 0 l = [] := by
  cases l with
  | nil => rfl
  | cons b l =>
    have := (pvL_nums l (b % 64) b).2 h
    show (if b / 64 % 2 = 0 then (0 * 64 + b % 64) :: nums 0 l else nums (0 * 64 + b % 64) l) = _
    rw [Int.zero_mul, Int.zero_add]
    exact this
theorem mr_len : ∀ l : List Int, mr l ≤ l.length
  | [] => Nat.le_refl _
  | c :: r => by
    have := mr_len r
    unfold mr
    rw [List.length_cons]
    split <;> (first | lia | omega)
theorem mr_short {zs : List Int} (h : zs.length ≤ 1000) (i : Nat) : mr (zs.drop i) ≤ 1000 :=
  Nat.le_trans (mr_len _) (Nat.le_trans (by rw [List.length_drop]; (first | lia | omega)) h)

section
variable {prog : Program} {w : World} {A : Around} {h₀ : Heap} {L : Stk} {p : Program} {loose : Heap → Prop} {mean : ExcName → Option Value} {mg mb : Str → Option Value} {A₀ : Around} {base : Heap} {outer : List Env} {env : Env} {dep : Nat}

noncomputable abbrev tryS (told so : Str) (p1 p2 p3 p4 p5 p6 p7 p8 p9 q1 q2 q3 : Pos) : Stmt :=
  .Try [.Expr (.Call (.Attribute (.Name told p1) (Str.ofString "append") p2) [.Call (.Name fPV.name p3) [.Name so p4] [] p5] [] p6) p7] [.ExceptHandler (some (.Name siS p8)) none [.Return (some (.Name told p9)) q1] q2] [] [] q3

theorem read_loop {told so tn : Str} {tp p1 p2 p3 p4 p5 p6 p7 p8 p9 q1 q2 q3 : Pos} {S lz I : Addr} {zs : List Int} {fp : List Addr} {P : Nat → Value → Prop} {St : Nat → Heap → Prop} {items : List D} {fx0 fz0 : Led} {hp0 : Heap}
    (X : Fx p loose mean mg mb A₀ A base h₀ outer env L (dep + 1)) (Γ : Gx prog w p loose mean mg mb noΦ 0) (ΓO : GxO prog w p loose mean mg mb noΨ 0) (hr : fPV ∈ recsOf p) (hsi : mg siS = none) (FX : FE env L)
    (hkn : env.scope.names.lookup fPV.name = some .globalImplicit) (hks : env.scope.names.lookup siS = some .globalImplicit) (hp : p2.endLine = p6.line)
    (hz : ∀ i, mr (zs.drop i) ≤ 1000) (hpos : ∀ c ∈ zs, 0 ≤ c) (hn1 : tn ≠ so) (hn2 : tn ≠ told) (hn3 : told ≠ so) (T : Itr prog w A h₀ L fx0 fz0 hp0 items I fp P St) :
    ∀ (ds : List D) {i jz : Nat} {ρ : Rho} {l : List D} {m : Str → Option Value} {fx ext fz : Led} {s : Shared} {oI oS : Obj} {R : Result → Shared → Prop},
      ρ.lookup so = some (.raw (.ref S)) → ρ.lookup told = some (.own l) → (∃ t, ρ.lookup tn = some t ∧ isFre t = false) → l.length + (zs.length - jz) < line24 → zs.length - jz < ds.length →
      Al h₀ fz env m ρ fx → Lg h₀ L m (fx ++ (I, oI) :: (S, oS) :: ext) fz s.heap → (∀ q ∈ fz0, q ∈ fz) → ds = items.drop i → i ≤ items.length → St i s.heap → itO oS lz jz → Rep h₀ fz (.ref lz) (zl zs) → jz ≤ zs.length →
      (∀ v h' tk' m' fx' add, Lg h₀ L m' (fx' ++ ext) (add ++ fz) h' → Off add fz → Rep h₀ (add ++ fz) v (.lst (l ++ (nums 0 (zs.drop jz)).map .int)) → R (.ok (.ret v)) { s with heap := h', toks := tk' }) →
      codeAny (model prog w) A (.forLoop (.Name tn tp) (.ref I) [tryS told so p1 p2 p3 p4 p5 p6 p7 p8 p9 q1 q2 q3] [] env) R s := by
  intro ds
  induction ds with
  | nil => intro i jz ρ l m fx ext fz s oI oS R _ _ _ _ hlt; simp at hlt
  | cons d ds ih =>
    intro i jz ρ l m fx ext fz s oI oS R hso htold htn hlen hlt H G hs0 hds hi hst ho hl hjz K
    have hil : i < items.length := by
      rcases Nat.lt_or_ge i items.length with h | h
      · exact h
      · rw [List.drop_eq_nil_of_le h] at hds; cases hds
    have hdi : items[i]? = some d := by
      have := congrArg List.head? hds
      simpa [List.head?_drop] using this.symm
    have hdr : ds = items.drop (i + 1) := by
      have := congrArg List.tail hds
      simpa [List.tail_drop] using this
    refine for_step (T.W.item i _ _ _ hil hst fun v h2 tk2 hv hst2 hk2 => ?_)
    obtain ⟨oI2, nI2, hI2, hcI2, hgI2⟩ := T.cls _ _ hst2
    have G2 : Lg h₀ L m (fx ++ (I, oI2) :: (S, oS) :: ext) fz h2 := G.replace (fun b x hb e => hk2 b x (by simpa using hb) e) hI2
    refine go_sound (s := ⟨h2, s.gens, s.drawn, tk2, s.os⟩) hI2 hcI2 hgI2 ?_
    obtain ⟨d', hd', hr'⟩ := T.item i v hil hv
    rw [hdi] at hd'
    cases hd'
    obtain ⟨tsl, htn1, htn2⟩ := htn
    have hset : setV ρ tn d = some (upd ρ tn (slotV tsl d)) := setV_of htn1 htn2
    refine asg_sound X.hh FX H G2 (ρ' := upd ρ tn (slotV tsl d)) (by unfold asgD; exact hset) (hr'.sub hs0) fun h3 tk3 m3 fx3 G3 H3 => ?_
    have hso3 : (upd ρ tn (slotV tsl d)).lookup so = some (.raw (.ref S)) := by rw [lookup_upd_ne _ _ _ _ hn1]; exact hso
    have htold3 : (upd ρ tn (slotV tsl d)).lookup told = some (.own l) := by rw [lookup_upd_ne _ _ _ _ hn2]; exact htold
    have htn3 : (upd ρ tn (slotV tsl d)).lookup tn = some (slotV tsl d) := lookup_upd _ htn1
    have e3 : (fx3 ++ (I, oI2) :: (S, oS) :: ext).Perm (fx3 ++ (S, oS) :: (I, oI2) :: ext) := (List.Perm.swap _ _ _).append_left _
    refine wpAny_execs_cons (try_turn (oI := oS) (i := jz) (lz := lz) (zs := zs) X Γ ΓO hr hsi FX hkn hks hp hz hpos hso3 htold3 (by (first | lia | omega)) H3 (G3.perm e3) ho hl hjz (fun v j h4 tk4 fx4 add4 oS4 hpv hj G4 ho4 H4 hi4 => ?_) (fun hpv v h4 tk4 m4 fx4 add4 G4 ho4 hr4 => ?_))
    · refine wpAny_execs_nil ?_
      obtain ⟨n1, n2⟩ := pv_some hpv
      rw [List.length_drop, List.length_drop] at n2
      have e4 : (fx4 ++ (S, oS4) :: (I, oI2) :: ext).Perm (fx4 ++ (I, oI2) :: (S, oS4) :: ext) := (List.Perm.swap _ _ _).append_left _
      have G4' := G4.perm e4
      have hst4 : St (i + 1) h4 := T.carry (h' := h2) G2 G4' hs0 (fun p hp => List.mem_append_right _ (hs0 p hp)) hI2 (G4'.fixed (by simp)) hst2
      have htn4 : isFre (slotV tsl d) = false := by
        cases tsl <;> first | rfl | cases htn2
      rw [List.length_cons] at hlt
      refine ih (s := { s with heap := h4, toks := tk4 }) (jz := j) (by rw [lookup_upd_ne _ _ _ _ hn3]; exact hso3) (lookup_upd _ htold3) ⟨_, by rw [lookup_upd_ne _ _ _ _ (Ne.symm hn2)]; exact htn3, htn4⟩ (by rw [List.length_append, List.length_singleton]; (first | lia | omega)) (by (first | lia | omega)) H4 G4' (fun q hq => List.mem_append_right _ (hs0 q hq)) hdr hil hst4 hi4 (hl.sub fun q hq => List.mem_append_right _ hq) hj ?_
      intro v' h5 tk5 m5 fx5 add5 G5 ho5 hr5
      rw [← List.append_assoc] at G5 hr5
      refine K v' h5 tk5 m5 fx5 (add5 ++ add4) G5 (Off.append (ho5.sub fun q hq => List.mem_append_right _ hq) ho4) ?_
      rw [n1]
      simpa using hr5
    · refine K v h4 tk4 m4 fx4 add4 (Lg.dropFix (G4.perm List.perm_middle)) ho4 ?_
      rw [pv_none hpv]
      simpa using hr4
end
end
section -- NN
noncomputable abbrev soS : Str := Str.ofString "source"
noncomputable abbrev toS : Str := Str.ofString "told"
noncomputable abbrev tnS : Str := Str.ofString "turn"
noncomputable abbrev ocS : Str := Str.ofString "octets"

section
variable {prog : Program} {w : World} {A : Around} {h₀ : Heap} {L : Stk} {p : Program} {loose : Heap → Prop} {mean : ExcName → Option Value} {mg mb : Str → Option Value} {A₀ : Around} {base : Heap} {outer : List Env} {env : Env} {dep : Nat}

theorem read_tail {a1 a2 a3 a4 a5 a6 a7 a8 b1 b2 b3 b4 b5 tp p1 p2 p3 p4 p5 p6 p7 p8 p9 q1 q2 q3 : Pos} {kk : Nat} {rest : List Stmt} {zs : List Int} {ρ : Rho} {m : Str → Option Value} {fx ext fz : Led} {s : Shared} {E : Value → Shared → Prop} {Q : Flow → Shared → Prop}
    (X : Fx p loose mean mg mb A₀ A base h₀ outer env L (dep + 1)) (Γ : Gx prog w p loose mean mg mb noΦ 0) (ΓO : GxO prog w p loose mean mg mb noΨ 0) (hr : fPV ∈ recsOf p) (hsi : mg siS = none) (FX : FE env L)
    (hkn : env.scope.names.lookup fPV.name = some .globalImplicit) (hks : env.scope.names.lookup siS = some .globalImplicit) (hki : env.scope.names.lookup (Str.ofString "iter") = some .globalImplicit) (hp : p2.endLine = p6.line)
    (hz : ∀ i, mr (zs.drop i) ≤ 1000) (hzl : zs.length < 10000000) (hpos : ∀ c ∈ zs, 0 ≤ c)
    (hoc : ρ.lookup ocS = some (.val (zl zs))) (hso : isLoc ρ soS = true) (hto : isLoc ρ toS = true) (htn : ∃ t, ρ.lookup tnS = some t ∧ isFre t = false)
    (H : Al h₀ fz env m ρ fx) (G : Lg h₀ L m (fx ++ ext) fz s.heap)
    (K : ∀ v h' tk' m' fx' add, Lg h₀ L m' (fx' ++ ext) (add ++ fz) h' → Off add fz → Rep h₀ (add ++ fz) v (zl (nums 0 zs)) → Q (.ret v) { s with heap := h', toks := tk' }) :
    wpAny (model prog w) A (execs (.Assign [.Name soS a1] (.Call (.Name (Str.ofString "iter") a2) [.Name ocS a3] [] a4) a5 :: .Assign [.Name toS a6] (.List [] a7) a8 ::
      .For (.Name tnS tp) (.BinOp (.Name ocS b1) .Add (.List [.Constant (.int 0) kk b2] b3) b4) [tryS toS soS p1 p2 p3 p4 p5 p6 p7 p8 p9 q1 q2 q3] [] b5 :: rest) env) Q E s := by
  refine wpAny_execs_cons (iter_stmt X Γ FX hki hoc hso H G fun S oS lz h1 tk1 m1 fx1 G1 H1 ho1 hl1 => ?_)
  have d1 : soS ≠ toS := by simp [ofString_eq]
  have d2 : soS ≠ tnS := by simp [ofString_eq]
  have d3 : soS ≠ ocS := by simp [ofString_eq]
  have d4 : toS ≠ tnS := by simp [ofString_eq]
  have d5 : toS ≠ ocS := by simp [ofString_eq]
  have hto1 : isLoc (upd ρ soS (.raw (.ref S))) toS = true := by
    unfold isLoc at hto ⊢
    rw [lookup_upd_ne _ _ _ _ d1]; exact hto
  refine wpAny_execs_cons (ownList_sound (ds := []) (f := true) X (Γ.mono' (Nat.zero_le _)) FX .s_nil rfl (by decide) hto1 H1 G1 ?_)
  intro h2 tk2 m2 fx2 add2 G2 ho2 H2
  generalize hρ2 : upd (upd ρ soS (.raw (.ref S))) toS (.own []) = ρ2 at H2
  have l1 : ρ2.lookup soS = some (.raw (.ref S)) := by
    rw [← hρ2, lookup_upd_ne _ _ _ _ (Ne.symm d1)]
    unfold isLoc at hso
    split at hso <;> first | cases hso | skip
    rename_i t _ _ ht
    exact lookup_upd _ ht
  have l2 : ρ2.lookup toS = some (.own []) := by
    rw [← hρ2]
    unfold isLoc at hto1
    split at hto1 <;> first | cases hto1 | skip
    rename_i t _ _ ht
    exact lookup_upd _ ht
  have l3 : ρ2.lookup ocS = some (.val (zl zs)) := by
    rw [← hρ2, lookup_upd_ne _ _ _ _ d5, lookup_upd_ne _ _ _ _ d3]; exact hoc
  have l4 : ∃ t, ρ2.lookup tnS = some t ∧ isFre t = false := by
    obtain ⟨t, h1, h2⟩ := htn
    exact ⟨t, by rw [← hρ2, lookup_upd_ne _ _ _ _ d4, lookup_upd_ne _ _ _ _ d2]; exact h1, h2⟩
  have hI : Ev noΦ env.scope.names ρ2 (.I (.BinOp (.Name ocS b1) .Add (.List [.Constant (.int 0) kk b2] b3) b4) ((zs ++ [0]).map .int)) := by
    have e1 : zs.length + 1 ≤ line24 := by unfold line24; (first | lia | omega)
    have e2 : (1 : Nat) ≤ line24 := by decide
    refine Ev.i_lst (Ev.bin (a := (zl zs, true)) (b := (zl [0], true)) (Ev.n (by unfold getV; rw [l3])) ?_ ?_)
    · walk_at "V"
    · rw [List.map_append]
      exact sq_ok (by simpa using e1) rfl
  refine wpAny_execs_cons (wpAny_For (evI X (Γ.mono' (Nat.zero_le _)) FX.O hI m2 _ _ _ _ _ G2 (H2.all.rho FX.hl _) fun I oI h3 tk3 add3 fp PP St G3 ho3 T hlen => ?_) (fun x => rfl))
  have e3 : ((I, oI) :: (fx2 ++ (S, oS) :: ext)).Perm (fx2 ++ (I, oI) :: (S, oS) :: ext) := List.perm_middle.symm
  refine read_loop (jz := 0) (i := 0) X Γ ΓO hr hsi FX hkn hks hp hz hpos (Ne.symm d2) (Ne.symm d4) (Ne.symm d1) T _ l1 l2 l4 ?_ ?_ (H2.grow add3) (G3.perm e3) (fun q hq => hq) rfl (Nat.zero_le _) T.st ho1 ((hl1.sub fun q hq => List.mem_append_right _ hq).sub fun q hq => List.mem_append_right _ hq) (Nat.zero_le _) ?_
  · simp [line24]; (first | lia | omega)
  · simp
  · intro v h4 tk4 m4 fx4 add4 G4 ho4 hr4
    have e4 : add4 ++ (add3 ++ (add2 ++ fz)) = (add4 ++ (add3 ++ add2)) ++ fz := by simp
    rw [e4] at G4 hr4
    refine K v h4 tk4 m4 fx4 _ G4 (Off.append (ho4.sub fun q hq => by simp [hq]) (Off.append ((off_fz ho3).sub fun q hq => by simp [hq]) ho2)) ?_
    simpa [zl] using hr4
end
end
section -- NO
section
variable {prog : Program} {w : World} {p : Program} {loose : Heap → Prop} {mean : ExcName → Option Value} {mg mb : Str → Option Value} {dep : Nat} {Φ : Phi} {Ψ : Psi}

/-- a body's rest that gives back a value -/
noncomputable def TailOk (prog : Program) (w : World) (p : Program) (loose : Heap → Prop) (mean : ExcName → Option Value) (mg mb : Str → Option Value) (dep : Nat) (nm : Names) (b : List Stmt) (ρ : Rho) (d : D) : Prop :=
  ∀ (A₀ A : Around) (base h₀ : Heap) (outer : List Env) (env : Env) (L : Stk) (m : Str → Option Value) (fx ext fz : Led) (s : Shared) (E : Value → Shared → Prop) (Q : Flow → Shared → Prop),
    Fx p loose mean mg mb A₀ A base h₀ outer env L dep → FE env L → env.scope.names = nm → Al h₀ fz env m ρ fx → Lg h₀ L m (fx ++ ext) fz s.heap →
    (∀ v h' tk' m' fx' add, Lg h₀ L m' (fx' ++ ext) (add ++ fz) h' → Off add fz → Rep h₀ (add ++ fz) v d → Q (.ret v) { s with heap := h', toks := tk' }) → wpAny (model prog w) A (execs b env) Q E s

theorem TailOk.cons {nm : Names} {st : Stmt} {b : List Stmt} {ρ ρ' : Rho} {d : D} (Γ : Gx prog w p loose mean mg mb Φ dep) (ΓO : GxO prog w p loose mean mg mb Ψ dep) (run : Run Φ Ψ nm (.S st) ρ ρ' .next) (T : TailOk prog w p loose mean mg mb dep nm b ρ' d) : TailOk prog w p loose mean mg mb dep nm (st :: b) ρ d := by
  intro A₀ A base h₀ outer env L m fx ext fz s E Q X FX hnm H G K
  subst hnm
  refine wpAny_execs_cons (run_sound X Γ ΓO FX run m fx ext fz s _ _ H G ?_)
  intro h1 tk1 m1 fx1 add1 G1 ho1 H1
  refine T A₀ A base h₀ outer env L m1 fx1 ext (add1 ++ fz) _ E Q X FX rfl H1 G1 fun v h' tk' m' fx' add G' ho hr => ?_
  rw [← List.append_assoc] at G' hr
  exact K v h' tk' m' fx' _ G' (Off.append (ho.sub fun q hq => List.mem_append_right _ hq) ho1) hr
theorem TailOk.frz {nm : Names} {b : List Stmt} {ρ : Rho} {d : D} (T : TailOk prog w p loose mean mg mb dep nm b (froz ρ) d) : TailOk prog w p loose mean mg mb dep nm b ρ d := by
  intro A₀ A base h₀ outer env L m fx ext fz s E Q X FX hnm H G K
  obtain ⟨add, kp, pm, k⟩ := H.all.froz
  have pm' : (fx ++ ext).Perm (add ++ (kp ++ ext)) := by rw [← List.append_assoc]; exact pm.append_right ext
  obtain ⟨G1, ho⟩ := (G.perm pm').freezes
  refine T A₀ A base h₀ outer env L m kp ext (add ++ fz) s E Q X FX hnm ⟨by rw [froz_keys]; exact H.nd, k _ (fun p hp => List.mem_append_right _ hp) fun p hp => List.mem_append_left _ hp⟩ G1 fun v h' tk' m' fx' add' G' ho' hr => ?_
  rw [← List.append_assoc] at G' hr
  exact K v h' tk' m' fx' _ G' (Off.append (ho'.sub fun q hq => List.mem_append_right _ hq) (off_fz ho)) hr

theorem TailOk.call {r : DefRec} (hr : r ∈ recsOf p) (xs : List Str) {ds : List D} {d : D} (hok : fnOk r.scope xs = true)
    (hb : ∀ pm code doc vs, vs.length = xs.length → bindArgs (docDef r.name r.params r.body r.scope pm code doc) ⟨vs, []⟩ = pure (xs.zip vs)) (hlen : ds.length = xs.length)
    (T : TailOk prog w p loose mean mg mb dep r.scope.names r.body (rho0 r.scope xs ds) d) : ∀ fv, mg r.name = some fv → CallOk prog w p loose mean mg mb (dep + 1) fv ds d := by
  intro fv hfv A₀ A base h₀ outer fenv L m fix fz s vs Q E X G hrs P
  obtain ⟨a, o, pm, code, doc, hmg, hob, hfd, hcd⟩ := X.T.fn r hr
  rw [hmg] at hfv
  cases hfv
  refine enter X G hob hfd hcd hok hb hlen hrs fun A' outer' K m₁ cells s₁ Q' E' FX FE' LG H0 B => ?_
  refine T _ _ _ _ _ _ _ _ cells fix fz _ _ _ FX FE' rfl H0 LG ?_
  intro v h' tk' m' fx' add G' ho r'
  exact B _ h' tk' m' fx' fix (add ++ fz) G' fun LGc => P v h' tk' add LGc (off_of G' ho) r'

theorem TailOk.read {a1 a2 a3 a4 a5 a6 a7 a8 b1 b2 b3 b4 b5 tp p1 p2 p3 p4 p5 p6 p7 p8 p9 q1 q2 q3 : Pos} {kk : Nat} {rest : List Stmt} {zs : List Int} {ρ : Rho} {nm : Names}
    (Γ : Gx prog w p loose mean mg mb noΦ 0) (ΓO : GxO prog w p loose mean mg mb noΨ 0) (hr : fPV ∈ recsOf p) (hsi : mg siS = none)
    (hkn : nm.lookup fPV.name = some .globalImplicit) (hks : nm.lookup siS = some .globalImplicit) (hki : nm.lookup (Str.ofString "iter") = some .globalImplicit) (hp : p2.endLine = p6.line)
    (hz : ∀ i, mr (zs.drop i) ≤ 1000) (hzl : zs.length < 10000000) (hpos : ∀ c ∈ zs, 0 ≤ c)
    (hoc : ρ.lookup ocS = some (.val (zl zs))) (hso : isLoc ρ soS = true) (hto : isLoc ρ toS = true) (htn : ∃ t, ρ.lookup tnS = some t ∧ isFre t = false) :
    TailOk prog w p loose mean mg mb (dep + 1) nm (.Assign [.Name soS a1] (.Call (.Name (Str.ofString "iter") a2) [.Name ocS a3] [] a4) a5 :: .Assign [.Name toS a6] (.List [] a7) a8 ::
      .For (.Name tnS tp) (.BinOp (.Name ocS b1) .Add (.List [.Constant (.int 0) kk b2] b3) b4) [tryS toS soS p1 p2 p3 p4 p5 p6 p7 p8 p9 q1 q2 q3] [] b5 :: rest) ρ (zl (nums 0 zs)) := by
  intro A₀ A base h₀ outer env L m fx ext fz s E Q X FX hnm H G K
  subst hnm
  exact read_tail X Γ ΓO hr hsi FX hkn hks hki hp hz hzl hpos hoc hso hto htn H G K
end
end
section -- NP
/-! ## a contract by a relation -/
open Classical in
noncomputable def relF {α β : Type} (enc : α → List D) (ok : α → Prop) (out : α → β) : List D → Option β := fun ds => if h : ∃ a, enc a = ds ∧ ok a then some (out (choose h)) else none
theorem relF_some {α β : Type} {enc : α → List D} {ok : α → Prop} {out : α → β} {ds : List D} {d : β} (h : relF enc ok out ds = some d) : ∃ a, enc a = ds ∧ ok a ∧ out a = d := by
  unfold relF at h
  split at h
  · rename_i hx
    cases h
    exact ⟨_, (Classical.choose_spec hx).1, (Classical.choose_spec hx).2, rfl⟩
  · cases h
theorem relF_eq {α β : Type} {enc : α → List D} {ok : α → Prop} {out : α → β} (inj : ∀ a b, enc a = enc b → a = b) {a : α} (h : ok a) : relF enc ok out (enc a) = some (out a) := by
  unfold relF
  have hx : ∃ b, enc b = enc a ∧ ok b := ⟨a, rfl, h⟩
  rw [dif_pos hx, inj _ _ (Classical.choose_spec hx).1]
theorem zl_inj {a b : List Int} (h : zl a = zl b) : a = b := by
  unfold zl at h
  injection h with h
  have := congrArg intsOf h
  rw [intsOf_map, intsOf_map] at this
  exact Option.some.inj this

/-! ## loops over lists -/
theorem run_for {Φ : Phi} {Ψ : Psi} {nm : Names} {tgt : Expr} {body : List Stmt} {α β : Type} (item : β → D) (emb : α → List β → Rho → Prop) (step : α → β → α)
    (turn : ∀ a b bs ρ, emb a (b :: bs) ρ → ∃ ρ₁ ρ₂, asgD ρ tgt (item b) = some ρ₁ ∧ Run Φ Ψ nm (.B body) ρ₁ ρ₂ .next ∧ emb (step a b) bs ρ₂) :
    ∀ bs a ρ, emb a bs ρ → ∃ ρ', Run Φ Ψ nm (.F tgt body (bs.map item)) ρ ρ' .next ∧ emb (bs.foldl step a) [] ρ'
  | [], a, ρ, h => ⟨ρ, .fnil, h⟩
  | b :: bs, a, ρ, h => by
    obtain ⟨ρ₁, ρ₂, h1, h2, h3⟩ := turn a b bs ρ h
    obtain ⟨ρ', h4, h5⟩ := run_for item emb step turn bs (step a b) ρ₂ h3
    exact ⟨ρ', .fcons h1 h2 (.inl rfl) h4, h5⟩
theorem run_rangeA {Φ : Phi} {Ψ : Psi} {nm : Names} {tgt : Expr} {body : List Stmt} {n : Nat} (item : Nat → D) (emb : Nat → Rho → Prop)
    (turn : ∀ i ρ, i < n → emb i ρ → ∃ ρ₁ ρ₂, asgD ρ tgt (item i) = some ρ₁ ∧ Run Φ Ψ nm (.B body) ρ₁ ρ₂ .next ∧ emb (i + 1) ρ₂) :
    ∀ (k i : Nat) ρ, i + k = n → emb i ρ → ∃ ρ', Run Φ Ψ nm (.F tgt body ((List.range' i k).map item)) ρ ρ' .next ∧ emb n ρ'
  | 0, i, ρ, e, h => ⟨ρ, .fnil, by have : i = n := e; subst this; exact h⟩
  | k + 1, i, ρ, e, h => by
    obtain ⟨ρ₁, ρ₂, h1, h2, h3⟩ := turn i ρ (by (first | lia | omega)) h
    obtain ⟨ρ', h4, h5⟩ := run_rangeA item emb turn k (i + 1) ρ₂ (by (first | lia | omega)) h3
    exact ⟨ρ', .fcons h1 h2 (.inl rfl) h4, h5⟩
theorem run_range {Φ : Phi} {Ψ : Psi} {nm : Names} {tgt : Expr} {body : List Stmt} {n : Nat} (item : Nat → D) (emb : Nat → Rho → Prop)
    (turn : ∀ i ρ, i < n → emb i ρ → ∃ ρ₁ ρ₂, asgD ρ tgt (item i) = some ρ₁ ∧ Run Φ Ψ nm (.B body) ρ₁ ρ₂ .next ∧ emb (i + 1) ρ₂) {ρ : Rho} (h : emb 0 ρ) :
    ∃ ρ', Run Φ Ψ nm (.F tgt body ((List.range n).map item)) ρ ρ' .next ∧ emb n ρ' := by
  rw [List.range_eq_range']
  exact run_rangeA item emb turn n 0 ρ (by (first | lia | omega)) h
theorem rangeD_to (n : Nat) (h : n ≤ 10000000) : rangeD 0 n 1 = some ((List.range n).map fun (i : Nat) => D.int i) := by
  have e : Builtin.Range.rangeSize 0 n 1 = n := by
    unfold Builtin.Range.rangeSize
    simp <;> (first | lia | omega)
  have hs : Builtin.Range.small 0 n 1 = true := by
    unfold Builtin.Range.small
    rw [e]
    simp [Builtin.Range.rangeFitsLong]
    (first | lia | omega)
  unfold rangeD
  rw [e, if_pos ⟨by decide, by decide, hs, by (first | lia | omega), by unfold line24; (first | lia | omega)⟩]
  simp
/-- a body: ahead of a loop, the loop, behind it -/
theorem run_three {Φ : Phi} {Ψ : Psi} {nm : Names} {b : List Stmt} (k : Nat) {ρ ρ₁ ρ₂ : Rho} {s : Stmt} {r : List Stmt} {d : D} (e : b.drop k = s :: r) (h1 : Run Φ Ψ nm (.B (b.take k)) ρ ρ₁ .next) (h2 : Run Φ Ψ nm (.S s) ρ₁ ρ₂ .next)
    (h3 : ∃ ρ', Run Φ Ψ nm (.B r) ρ₂ ρ' (.ret d)) : ∃ ρ', Run Φ Ψ nm (.B b) ρ ρ' (.ret d) := by
  obtain ⟨ρ', h4⟩ := h3
  exact ⟨ρ', run_split k h1 (run_conses k e h2 h4)⟩

theorem fmod_pos {a b : Int} (h : 0 ≤ b) : a.fmod b = a % b := Int.fmod_eq_emod_of_nonneg _ h
theorem fdiv_pos {a b : Int} (h : 0 ≤ b) : a.fdiv b = a / b := Int.fdiv_eq_ediv_of_nonneg _ h
theorem mulFit_r {a b : Int} (h : log60 b = true) : mulFit a b = true := by unfold mulFit; rw [h]; simp
theorem mulFit_l {a b : Int} (h : log60 a = true) : mulFit a b = true := by unfold mulFit; rw [h]; simp
theorem fmod64 (a : Int) : a.fmod 64 = a % 64 := fmod_pos (by decide)
theorem fdiv64 (a : Int) : a.fdiv 64 = a / 64 := fdiv_pos (by decide)
theorem fmod2 (a : Int) : a.fmod 2 = a % 2 := fmod_pos (by decide)
theorem fdiv2 (a : Int) : a.fdiv 2 = a / 2 := fdiv_pos (by decide)
theorem mf64 (a : Int) : mulFit a 64 = true := mulFit_r (by decide)
theorem mf2 (a : Int) : mulFit 2 a = true := mulFit_l (by decide)
theorem line24_pos : 0 < line24 := by decide
theorem mf64l (a : Int) : mulFit 64 a = true := mulFit_l (by decide)
theorem l8_64 : log8 64 = true := by decide
theorem l8_2 : log8 2 = true := by decide
/-! ## slices -/
theorem filterMap_same {α β : Type} {f g : α → Option β} : ∀ {l : List α}, (∀ x ∈ l, f x = g x) → l.filterMap f = l.filterMap g
  | [], _ => rfl
  | x :: r, h => by
    rw [List.filterMap_cons, List.filterMap_cons, h x List.mem_cons_self, filterMap_same fun y hy => h y (List.mem_cons_of_mem _ hy)]
theorem pickD_run (l : List D) (lo hi : Option Int) : pickD l lo hi none = (l.drop (kms_lo lo l.length)).take (kms_hi hi l.length - kms_lo lo l.length) := by
  unfold pickD
  rw [kms_bounds, sliceRange_one]
  have := pick_run l.toArray (kms_lo lo l.length) (kms_hi hi l.length - kms_lo lo l.length)
  simpa using this
theorem pickD_to (l : List D) (k : Nat) : pickD l none (some (k : Int)) none = l.take k := by
  rw [pickD_run]
  have h : ¬ ((k : Int) < 0) := by (first | lia | omega)
  simp only [kms_lo, kms_hi, h, if_false, Int.toNat_natCast, List.drop_zero, Nat.sub_zero]
  rcases Nat.le_total k l.length with h | h
  · rw [Nat.min_eq_left h]
  · rw [Nat.min_eq_right h, List.take_of_length_le h, List.take_of_length_le (Nat.le_refl _)]
theorem pickD_from (l : List D) (k : Nat) : pickD l (some (k : Int)) none none = l.drop k := by
  rw [pickD_run]
  have h : ¬ ((k : Int) < 0) := by (first | lia | omega)
  simp only [kms_lo, kms_hi, h, if_false, Int.toNat_natCast]
  rcases Nat.le_total k l.length with h | h
  · rw [Nat.min_eq_left h, List.take_of_length_le (by rw [List.length_drop]; (first | lia | omega))]
  · rw [Nat.min_eq_right h, Nat.sub_self, List.take_zero, List.drop_eq_nil_of_le h]
theorem pickD_mid (l : List D) (a b : Nat) (h : b ≤ l.length) : pickD l (some (a : Int)) (some (b : Int)) none = (l.drop a).take (b - a) := by
  rw [pickD_run]
  have h1 : ¬ ((a : Int) < 0) := by (first | lia | omega)
  have h2 : ¬ ((b : Int) < 0) := by (first | lia | omega)
  simp only [kms_lo, kms_hi, h1, h2, if_false, Int.toNat_natCast]
  rw [Nat.min_eq_left h]
  rcases Nat.le_total a l.length with h | h
  · rw [Nat.min_eq_left h]
  · rw [Nat.min_eq_right h, show b - l.length = 0 by (first | lia | omega), show b - a = 0 by (first | lia | omega), List.take_zero, List.take_zero]
theorem pickD_init (l : List D) : pickD l none (some (-1)) none = l.dropLast := by
  rw [pickD_run, List.dropLast_eq_take]
  rfl
theorem pickD_last (l : List D) : pickD l (some (-1)) none none = l.drop (l.length - 1) := by
  rw [pickD_run]
  show (l.drop (l.length - 1)).take (l.length - (l.length - 1)) = _
  rw [List.take_of_length_le (by rw [List.length_drop]; exact Nat.le_refl _)]
theorem pickD_rev (l : List D) : pickD l none none (some (-1)) = l.reverse := by
  unfold pickD
  rw [krv_bounds]
  show (sliceRange ((l.length : Int) - 1) (-1) (-1)).filterMap (l[·]?) = _
  rw [krv_sliceRange]
  apply List.ext_getElem?
  intro i
  by_cases h : i < l.length
  · have e : ((List.range l.length).map fun k => l.length - 1 - k).filterMap (l[·]?) = (List.range l.length).map fun k => l.getD (l.length - 1 - k) .none := by
      rw [List.filterMap_map, ← List.filterMap_eq_map]
      apply filterMap_same
      intro k hk
      have := List.mem_range.mp hk
      simp [List.getD, List.getElem?_eq_getElem (show l.length - 1 - k < l.length by (first | lia | omega))]
    rw [e, List.getElem?_reverse h]
    simp [h, List.getD, List.getElem?_eq_getElem (show l.length - 1 - i < l.length by (first | lia | omega))]
  · have e : ((List.range l.length).map fun k => l.length - 1 - k).filterMap (l[·]?) = (List.range l.length).map fun k => l.getD (l.length - 1 - k) .none := by
      rw [List.filterMap_map, ← List.filterMap_eq_map]
      apply filterMap_same
      intro k hk
      have := List.mem_range.mp hk
      simp [List.getD, List.getElem?_eq_getElem (show l.length - 1 - k < l.length by (first | lia | omega))]
    rw [e, List.getElem?_eq_none (by simpa using h), List.getElem?_eq_none (by simpa using h)]
theorem pickD_ints (l : List Int) (lo hi st : Option Int) : ∃ r : List Int, pickD (l.map .int) lo hi st = r.map .int := by
  unfold pickD
  generalize sliceRange _ _ _ = js
  refine ⟨js.filterMap (l[·]?), ?_⟩
  rw [List.map_filterMap]
  apply filterMap_same
  intro j _
  simp

/-! ## items -/
theorem mapM_ints {α β : Type} {f : D → Option α} {item : β → D} {g : β → α} (h : ∀ x, f (item x) = some (g x)) : ∀ l : List β, (l.map item).mapM f = some (l.map g)
  | [] => rfl
  | x :: r => by rw [List.map_cons, List.mapM_cons, h, mapM_ints h r]; rfl
theorem filterMap_id_some {α β : Type} (g : β → α) (l : List β) : (l.map fun x => some (g x)).filterMap id = l.map g := by
  induction l with
  | nil => rfl
  | cons x r ih => simp [ih]
theorem seqR_ints {l : List Int} {f : Bool} (h : l.length ≤ line24) : seqR (l.map .int) f = some (.lst (l.map .int), true) := by
  unfold seqR
  rw [if_pos ⟨by rw [List.length_map]; exact h, by rw [allAtom_ints]; simp⟩]
theorem bop_ints {a b : List Int} {f g : Bool} (h : a.length + b.length ≤ line24) : bopR .Add (.lst (a.map .int), f) (.lst (b.map .int), g) = some (.lst ((a ++ b).map .int), true) := by
  show seqR (a.map .int ++ b.map .int) (f && g) = _
  rw [← List.map_append, seqR_ints (by rw [List.length_append]; exact h)]
theorem ev_call1 {Φ : Phi} {nm : Names} {ρ : Rho} {g : Str} {gp cp : Pos} {e : Expr} {a d : D} (h1 : nm.lookup g = some .globalImplicit) (hs : notStar e = true) (h2 : Ev Φ nm ρ (.E e (a, true))) (h3 : Φ g [a] = some d) :
    Ev Φ nm ρ (.E (.Call (.Name g gp) [e] [] cp) (d, true)) := .callf h1 (.s_cons hs h2 .s_nil) rfl h3
theorem ev_call3 {Φ : Phi} {nm : Names} {ρ : Rho} {g : Str} {gp cp : Pos} {e1 e2 e3 : Expr} {a b c d : D} (h1 : nm.lookup g = some .globalImplicit) (hs1 : notStar e1 = true) (hs2 : notStar e2 = true) (hs3 : notStar e3 = true)
    (h2 : Ev Φ nm ρ (.E e1 (a, true))) (h3 : Ev Φ nm ρ (.E e2 (b, true))) (h4 : Ev Φ nm ρ (.E e3 (c, true))) (h5 : Φ g [a, b, c] = some d) :
    Ev Φ nm ρ (.E (.Call (.Name g gp) [e1, e2, e3] [] cp) (d, true)) := .callf h1 (.s_cons hs1 h2 (.s_cons hs2 h3 (.s_cons hs3 h4 .s_nil))) rfl h5
theorem ev_comp {γ : Type} {Φ : Phi} {nm : Names} {ρ : Rho} {elt tgt iter : Expr} {sc : Scope} {pos : Pos} {item : γ → D} {g : γ → D} {xs : List γ}
    (h1 : compScopeOk nm sc = true ∧ scopeKindOk sc = true ∧ notSet iter = true ∧ sc.names.all (fun x => !(x.1 == Str.ofString "__debug__")) = true) (hI : Ev Φ nm ρ (.I iter (xs.map item)))
    (he : ∀ x ∈ xs, ∃ bs, bindT sc tgt (item x) = some bs ∧ Ev Φ (relN nm sc) (bs ++ freeRho sc ρ) (.E elt (g x, true))) :
    Ev Φ nm ρ (.E (.ListComp elt [⟨tgt, iter, [], 0⟩] sc pos) (.lst (xs.map g), true)) := by
  have h := Ev.comp (p := pos) (bs := fun x => (bindT sc tgt (item x)).getD []) (t := fun _ => true) (g := g) h1 hI
    (fun x hx => by obtain ⟨b, e, _⟩ := he x hx; rw [e]; rfl) (fun x hx => .a_nil) (fun x hx _ => by obtain ⟨b, e, h⟩ := he x hx; rw [e]; exact h)
  rw [List.filter_eq_self.mpr fun _ _ => rfl] at h
  exact h
theorem deps_ints : ∀ l : List Int, deps (l.map .int) = 0
  | [] => rfl
  | x :: r => by rw [List.map_cons, deps, deps_ints r]; rfl
theorem dep_zl (l : List Int) : (D.lst (l.map .int)).dep = 1 := by rw [D.dep, deps_ints]
theorem eqvAll_ints : ∀ a b : List Int, PyData.eqvAll (pys (a.map .int)) (pys (b.map .int)) = decide (a = b)
  | [], [] => by simp [pys, PyData.eqvAll]
  | [], y :: b => by simp [pys, PyData.eqvAll]
  | x :: a, [] => by simp [pys, PyData.eqvAll]
  | x :: a, y :: b => by
    have h := eqvAll_ints a b
    simp only [List.map_cons, pys, D.py, PyData.eqvAll, PyData.eqv, h]
    by_cases hx : x = y
    · subst hx; simp
    · simp [hx]
theorem eqD_zl (a b : List Int) : eqD (.lst (a.map .int)) (.lst (b.map .int)) = decide (a = b) := by
  unfold eqD
  rw [D.py, D.py, PyData.eqv, eqvAll_ints]
theorem eqD_00 : eqD (.lst []) (.lst []) = true := eqD_zl [] []
theorem seqR_nil (f : Bool) : seqR [] f = some (.lst [], true) := by unfold seqR; rw [if_pos ⟨by decide, by simp [allAtom]⟩]
theorem eqD_zl0 (a : List Int) : eqD (.lst (a.map .int)) (.lst []) = decide (a = []) := eqD_zl a []
end
section -- NQ
noncomputable def pr1 (x : Int × Int) : D := .tup [.int x.1, .int x.2]
noncomputable def prD (l : List (Int × Int)) : D := .lst (l.map pr1)
theorem idx_bool (l : List Bool) (f : Bool) (i : Nat) (h : i < l.length) : idxD (.lst (l.map .bool), f) i = some (.bool (l.getD i false), true) := by
  have e1 : -(l.length : Int) ≤ i := by (first | lia | omega)
  have e2 : (i : Int) < l.length := by (first | lia | omega)
  have e3 : ¬ ((i : Int) < 0) := by (first | lia | omega)
  simp [idxD, e1, e2, e3, h, atom_bool, List.getD]
noncomputable def DmOk (Φ : Phi) : Prop := ∀ a b : Int, b ≠ 0 → -(2 ^ 2900) < b → b < 2 ^ 2900 → -(2 ^ 2900) < a → a < 2 ^ 2900 → Φ (Str.ofString "int_divmod") [.int a, .int b] = some (.tup [.int (a.fdiv b), .int (a.fmod b)])
theorem dm_1 {Φ : Phi} (h : DmOk Φ) {a l : Int} (hl : 0 < l) (hl2 : l < 2 ^ 2900) (h1 : -(2 ^ 2900) < a) (h2 : a < 2 ^ 2900) : Φ (Str.ofString "int_divmod") [.int a, .int l] = some (.tup [.int (a / l), .int (a % l)]) := by
  rw [h a l (by (first | lia | omega)) (by (first | lia | omega)) hl2 h1 h2, fdiv_pos (by (first | lia | omega)), fmod_pos (by (first | lia | omega))]
theorem dm_2 {Φ : Phi} (h : DmOk Φ) {a l : Int} (hl : 0 < l) (hl2 : l < 2 ^ 2900) (h1 : -(2 ^ 2900) < a) (h2 : a < 2 ^ 2900) : Φ (Str.ofString "int_divmod") [.int a, .int (-l)] = some (.tup [.int ((-a) / l), .int (-((-a) % l))]) := by
  obtain ⟨e1, e2⟩ := fdm_bneg (a := a) (b := -l) (by (first | lia | omega))
  rw [Int.neg_neg] at e1 e2
  rw [h a (-l) (by (first | lia | omega)) (by (first | lia | omega)) (by (first | lia | omega)) h1 h2, ← e1, ← e2, fdiv_pos (by (first | lia | omega)), fmod_pos (by (first | lia | omega))]
theorem deps_pr : ∀ l : List (Int × Int), deps (l.map pr1) ≤ 1
  | [] => by simp [deps]
  | x :: r => by
    have := deps_pr r
    rw [List.map_cons, deps, pr1, D.dep]
    simp [deps, D.dep]
    (first | lia | omega)
theorem eqD_nil (l : List D) : eqD (.lst l) (.lst []) = l.isEmpty := by
  unfold eqD
  rw [D.py, D.py, PyData.eqv]
  cases l with
  | nil => simp [pys, PyData.eqvAll]
  | cons a r => simp [pys, PyData.eqvAll]
theorem idx_last (l : List D) (x : D) : idxD (.lst (l ++ [x]), true) (-1) = some (x, true) := by
  have e1 : -((l ++ [x]).length : Int) ≤ -1 := by simp; (first | lia | omega)
  have e2 : (-1 : Int) < (l ++ [x]).length := by simp; (first | lia | omega)
  have e3 : (-1 + ((l ++ [x]).length : Int)).toNat = l.length := by rw [List.length_append, List.length_singleton]; (first | lia | omega)
  unfold idxD
  simp only [e1, e2, and_self, if_true]
  rw [if_pos (by decide), e3]
  simp
theorem idx_zero (x : D) (l : List D) : idxD (.lst (x :: l), true) 0 = some (x, true) := by
  simp [idxD]
  (first | lia | omega)
theorem one_inj {α β : Type} {f : α → β} (h : ∀ a b, f a = f b → a = b) (a b : α) (e : [f a] = [f b]) : a = b := h a b (by injection e)
theorem dmOk_of {Φ : Phi} (h : Φ (Str.ofString "int_divmod") = FM) : DmOk Φ := fun a b h1 h2 h3 h4 h5 => by
  rw [h]
  simp only [FM]
  rw [if_pos ⟨h1, h2, h3, h4, h5⟩]
theorem zl1_inj (a b : List Int) (h : [zl a] = [zl b]) : a = b := one_inj (fun _ _ h => zl_inj h) a b h
noncomputable def noneIn (K : Frag) (x : Str) : Bool := match nsIn K mainGlobals x with
  | some none => true
  | _ => false
noncomputable def intIn (K : Frag) (x : Str) (i : Int) : Bool := match nsIn K mainGlobals x with
  | some (some (.int j _)) => j == i
  | _ => false
theorem noneIn_of {K : Frag} {h : Heap} {mg : Str → Option Value} {x : Str} (X : K.In h) (G : h.Ns mainGlobals mg) (e : noneIn K x = true) : mg x = none := by
  unfold noneIn at e
  split at e
  · rename_i h1; exact mg_none_of X G h1
  · cases e
theorem intIn_of {K : Frag} {h : Heap} {mg : Str → Option Value} {x : Str} {i : Int} (X : K.In h) (G : h.Ns mainGlobals mg) (e : intIn K x i = true) : ∃ t, mg x = some (.int i t) := by
  unfold intIn at e
  split at e
  · rename_i j t h1
    rw [← eq_of_beq e]
    exact ⟨t, mg_of X G h1⟩
  · cases e
theorem nestFn_of {p : Program} {Ls : List Str} {mean : ExcName → Option Value} {mg mb : Str → Option Value} {h1 : Heap} {ts : List (Addr × Addr)} {K : Frag} {r : DefRec} {c P : Addr} (hT : TabsAt ts h1) (T : Top p Ls mean mg mb h1) (X : K.In (ghostOf h1 ts)) (hr : r ∈ recsOf p) (ht : tabIn K r.name = some (c, P)) (hc : CodeHd (ghostOf h1 ts) c P) :
    NestFn mg r c P (ghostOf h1 ts) := by
  obtain ⟨a, o, pm, code, doc, e1, e2, e3, e4⟩ := T.fn r hr
  have e2' : (ghostOf h1 ts).get? a = some o := ghost_get hT e2 fun q => by rw [q] at e3; cases e3
  have e4' : (ghostOf h1 ts).CodeRec code r.name := by
    obtain ⟨c', oc, vs, tk, h1, h2, h3, h4⟩ := e4
    exact ⟨c', oc, vs, tk, h1, ghost_get hT h2 fun q => by
      rw [q] at h3
      have h3' : Data.fields #[] = Data.fields vs := h3
      cases h3'
      simp at h4, h3, h4⟩
  have ec : code = .ref c := law_code X (ghost_ns hT T.g) ht e1 e2' e3
  subst ec
  exact ⟨a, o, pm, doc, e1, e2', e3, e4', hc⟩
theorem NestFn.keeps {mg : Str → Option Value} {r : DefRec} {c P : Addr} {h h' : Heap} (k : ∀ b o, h.get? b = some o → h'.get? b = some o) (n : NestFn mg r c P h) : NestFn mg r c P h' :=
  let ⟨a, o, pm, doc, e1, e2, e3, e4, e5⟩ := n
  ⟨a, o, pm, doc, e1, k _ _ e2, e3, e4.keeps k, e5.keeps k⟩
theorem gx_nil {prog : Program} {w : World} {p : Program} {loose : Heap → Prop} {mean : ExcName → Option Value} {mg mb : Str → Option Value} {K : Frag} {g : Heap} (X : K.In g) (G : g.Ns mainGlobals mg) (k3 : bnames.all (noneIn K) = true) (k4 : intIn K (Str.ofString "_DIV_LIMIT") 4000 = true) :
    Gx prog w p loose mean mg mb noΦ 0 where
  phi := fun g ds d e => by cases e
  nob := fun x hx => noneIn_of X G (List.all_eq_true.mp k3 x hx)
  cst := fun x i e => by
    unfold cstI at e
    split at e
    · rename_i hx
      cases e
      subst hx
      exact ⟨by decide +kernel, intIn_of X G k4⟩
    · cases e
theorem gxo_nil {prog : Program} {w : World} {p : Program} {loose : Heap → Prop} {mean : ExcName → Option Value} {mg mb : Str → Option Value} : GxO prog w p loose mean mg mb noΨ 0 := ⟨fun g ds l e => by cases e⟩
theorem reps_ints {g : Heap} : ∀ {vs : List Value} {xs : List Int}, IntsAre vs xs → Reps g [] vs (xs.map .int)
  | _, _, .nil => .nil
  | _, _, .cons n t h => .cons (.int n t) (reps_ints h)
theorem mem_of_ix {p : Program} : ∀ {js : List Nat} {rs : List DefRec}, js.map (fun j => (recsOf p)[j]?) = rs.map some → ∀ r ∈ rs, r ∈ recsOf p
  | [], [], _ => fun _ h => nomatch h
  | [], _ :: _, h => nomatch h
  | _ :: _, [], h => nomatch h
  | j :: js, r :: rs, h => by
    rw [List.map_cons, List.map_cons] at h
    injection h with h1 h2
    intro x hx
    rcases List.mem_cons.mp hx with rfl | hx
    · exact List.mem_of_getElem? h1
    · exact mem_of_ix h2 x hx
end
section -- NR
/-! ## the head: what the heap behind the top is seen to hold -/
noncomputable def fragAt (as : List Addr) (h : Heap) : Frag := as.filterMap fun a => (h.get? a).map fun o => (a, o)
theorem fragAt_in (as : List Addr) (h : Heap) : (fragAt as h).In h := fun a o e => by
  obtain ⟨b, _, e⟩ := List.mem_filterMap.mp (mem_of_lookupK e)
  obtain ⟨o', e1, e2⟩ := Option.map_eq_some_iff.mp e
  cases e2
  exact e1
noncomputable def goodK (cI tI cD tD : Addr) (K : Frag) : Bool :=
  noTabs K && (codeHdIn K cI tI && (codeHdIn K cD tD && (tabIn K fI2D.name == some (cI, tI) && (tabIn K fD2I.name == some (cD, tD) && (bnames.all (noneIn K) && (intIn K (Str.ofString "_DIV_LIMIT") 4000 && noneIn K siS))))))
noncomputable def ourHook (cI tI cD tD : Addr) (as : List Addr) : Hook where
  α := Bool × Option Obj × Option Obj
  obs := fun s => (goodK cI tI cD tD (fragAt as s.heap), s.heap.get? tI, s.heap.get? tD)
  val := fun _ => (true, some (tabObj #[]), some (tabObj #[]))
  says := fun _ h => ∃ K : Frag, K.In h ∧ goodK cI tI cD tD K = true ∧ h.get? tI = some (tabObj #[]) ∧ h.get? tD = some (tabObj #[])
  of := fun _ s e => ⟨_, fragAt_in as s.heap, congrArg (·.1) e, congrArg (·.2.1) e, congrArg (·.2.2) e⟩
  keeps := fun _ _ _ x k => let ⟨K, X, g, a, b⟩ := x; ⟨K, X.keeps k, g, k _ _ a, k _ _ b⟩
theorem seenK {cI tI cD tD : Addr} {K : Frag} (g : goodK cI tI cD tD K = true) : noTabs K = true ∧ codeHdIn K cI tI = true ∧ codeHdIn K cD tD = true ∧ tabIn K fI2D.name = some (cI, tI) ∧ tabIn K fD2I.name = some (cD, tD) ∧ bnames.all (noneIn K) = true ∧ intIn K (Str.ofString "_DIV_LIMIT") 4000 = true ∧ noneIn K siS = true := by
  unfold goodK at g
  obtain ⟨g0, g⟩ := Bool.and_eq_true_iff.mp g
  obtain ⟨g1, g⟩ := Bool.and_eq_true_iff.mp g
  obtain ⟨g2, g⟩ := Bool.and_eq_true_iff.mp g
  obtain ⟨g3, g⟩ := Bool.and_eq_true_iff.mp g
  obtain ⟨g4, g⟩ := Bool.and_eq_true_iff.mp g
  obtain ⟨g5, g⟩ := Bool.and_eq_true_iff.mp g
  obtain ⟨g6, g⟩ := Bool.and_eq_true_iff.mp g
  exact ⟨g0, g1, g2, eq_of_beq g3, eq_of_beq g4, g5, g6, g⟩
theorem tabs_of {cI tI cD tD : Addr} {K : Frag} {h : Heap} (X : K.In h) (g : goodK cI tI cD tD K = true) (a : h.get? tI = some (tabObj #[])) (b : h.get? tD = some (tabObj #[])) : TabsAt [(cD, tD), (cI, tI)] h :=
  List.forall_mem_cons.mpr ⟨⟨codeHd_of_K X (seenK g).2.2.1, b⟩, List.forall_mem_cons.mpr ⟨⟨codeHd_of_K X (seenK g).2.1, a⟩, fun _ h => nomatch h⟩⟩
end
section -- QA
noncomputable def fST : DefRec := fnIx pw 11

/-! ## _law_stream -/
theorem idx_lastz (l : List Int) (x : Int) (f : Bool) : idxD (.lst ((l ++ [x]).map .int), f) (-1) = some (.int x, true) := by
  have e1 : -(((l ++ [x]).map D.int).length : Int) ≤ -1 := by simp; (first | lia | omega)
  have e2 : (-1 : Int) < ((l ++ [x]).map D.int).length := by simp; (first | lia | omega)
  have e3 : (-1 + (((l ++ [x]).map D.int).length : Int)).toNat = l.length := by rw [List.length_map, List.length_append, List.length_singleton]; (first | lia | omega)
  unfold idxD
  simp only [e1, e2, and_self, if_true]
  rw [if_pos (by decide), e3]
  simp [atom_int]
noncomputable def figF (u l : Int) : Int := u * (l % 64) ^ 15 % 64
noncomputable abbrev stρ (u l c : D) (fs us t f : Slot) : Rho := [(Str.ofString "upper", .val u), (Str.ofString "lower", .val l), (Str.ofString "count", .val c), (Str.ofString "figures", fs), (Str.ofString "uppers", us), (Str.ofString "turn", t), (Str.ofString "figure", f)]
theorem fST_rho (u l c : D) : rho0 fST.scope [Str.ofString "upper", Str.ofString "lower", Str.ofString "count"] [u, l, c] = stρ u l c .unset .unset .unset .unset := by
  unfold rho0 cellKeys localKeys
  conv => lhs; simp only [show fST.scope.names = _ from by conv => lhs; whnf]
  simp [cellsFrom, List.lookup_cons, ofString_beq]
theorem fST_turn (Φ : Phi) (u c : D) (l x : Int) (fs us : List Int) (t : D) (f : Slot) (hf : plain f) (h1 : fs.length < line24) (h2 : us.length + 1 < line24) (hx : log60 x = true) (hl : log60 l = true) :
    Run Φ noΨ fST.scope.names (.B (bodyOf (stAt fST.body 2))) (stρ u (.int l) c (.own (fs.map .int)) (.own ((us ++ [x]).map .int)) (.val t) f)
      (stρ u (.int l) c (.own ((fs ++ [figF x l]).map .int)) (.own (((us ++ [x]) ++ [(x - figF x l * l) / 64]).map .int)) (.val t) (.val (.int (figF x l)))) .next := by
  have e1 : idxD (.lst ((us ++ [x]).map .int), false) (-1) = some (.int x, true) := idx_lastz us x false
  have e3 : mulFit x ((l % 64) ^ 15) = true := mulFit_l hx
  have e4 : mulFit (x * (l % 64) ^ 15 % 64) l = true := mulFit_r hl
  have e5 : bopR .Pow (.int (l % 64), true) (.int 15, true) = some (.int ((l % 64) ^ 15), true) := if_pos ⟨by decide, by decide, log60_of (by (first | lia | omega))⟩
  have e6 : (fs.map D.int).length < line24 := by rw [List.length_map]; exact h1
  have e7 : ((us ++ [x]).map D.int).length < line24 := by rw [List.length_map, List.length_append]; exact h2
  generalize us ++ [x] = ux at *
  conv => arg 3; whnf
  conv => arg 4; arg 1; whnf
  walk_at "R"
/-- the figures and the upper numbers -/
noncomputable def fgs (l : Int) : Nat → Int → List Int
  | 0, _ => []
  | k + 1, u => figF u l :: fgs l k ((u - figF u l * l) / 64)
noncomputable def ups (l : Int) : Nat → Int → List Int
  | 0, u => [u]
  | k + 1, u => u :: ups l k ((u - figF u l * l) / 64)
theorem fgs_len (l : Int) : ∀ (k : Nat) (u : Int), (fgs l k u).length = k
  | 0, _ => rfl
  | k + 1, u => by simp [fgs, fgs_len l k]
theorem ups_len (l : Int) : ∀ (k : Nat) (u : Int), (ups l k u).length = k + 1
  | 0, _ => rfl
  | k + 1, u => by simp [ups, ups_len l k]
theorem fST_run (Φ : Phi) (u l : Int) (n : Nat) (hn : n ≤ 10000) (hl : log60 l = true) (hu : ∀ x ∈ ups l n u, log60 x = true) :
    Rets Φ noΨ fST [Str.ofString "upper", Str.ofString "lower", Str.ofString "count"] [.int u, .int l, .int n] (.tup [zl (fgs l n u), zl (ups l n u)]) := by
  unfold Rets
  rw [fST_rho]
  obtain ⟨ρ', run, fs, us, x, t, f, ht, hf, hfl, hul, hfs, hus, hmem, rfl⟩ := run_range (Φ := Φ) (Ψ := noΨ) (nm := fST.scope.names) (tgt := forT (stAt fST.body 2)) (body := bodyOf (stAt fST.body 2)) (n := n) (fun (i : Nat) => D.int i)
    (fun i ρ => ∃ fs us x t f, plain t ∧ plain f ∧ fs.length = i ∧ us.length = i ∧ fgs l n u = fs ++ fgs l (n - i) x ∧ ups l n u = us ++ ups l (n - i) x ∧ (∀ y ∈ us ++ ups l (n - i) x, log60 y = true) ∧ ρ = stρ (.int u) (.int l) (.int n) (.own (fs.map .int)) (.own ((us ++ [x]).map .int)) t f) (fun i ρ hi e => by
      obtain ⟨fs, us, x, t, f, ht, hf, hfl, hul, hfs, hus, hmem, rfl⟩ := e
      obtain ⟨k, hk⟩ : ∃ k, n - i = k + 1 := ⟨n - i - 1, by (first | lia | omega)⟩
      have hk' : n - (i + 1) = k := by (first | lia | omega)
      rw [hk, fgs] at hfs
      rw [hk, ups] at hus hmem
      refine ⟨stρ (.int u) (.int l) (.int n) (.own (fs.map .int)) (.own ((us ++ [x]).map .int)) (.val (.int i)) f, _, ?_, fST_turn Φ (.int u) (.int n) l x fs us (.int i) f hf (by unfold line24; (first | lia | omega)) (by unfold line24; (first | lia | omega)) (hmem x (by simp)) hl,
        fs ++ [figF x l], us ++ [x], (x - figF x l * l) / 64, .val (.int i), .val (.int (figF x l)), plain_val _, plain_val _, by simp [hfl], by simp [hul], by rw [hfs, hk', List.append_assoc]; rfl, by rw [hus, hk', List.append_assoc]; rfl, ?_, rfl⟩
      · walk_at "A"
      · rw [hk', List.append_assoc]
        exact hmem) (ρ := stρ (.int u) (.int l) (.int n) (.own []) (.own [.int u]) .unset .unset) ⟨[], [], u, .unset, .unset, plain_unset, plain_unset, rfl, rfl, rfl, rfl, hu, rfl⟩
  rw [Nat.sub_self, fgs, List.append_nil] at hfs
  rw [Nat.sub_self, ups] at hus
  rw [hfs, hus]
  refine run_three 2 (s := stAt fST.body 2) (r := fST.body.drop 3) (ρ₁ := stρ (.int u) (.int l) (.int n) (.own []) (.own [.int u]) .unset .unset) rfl ?_ (.for rfl (Ev.i_rng (f := true) rfl ?_ (rangeD_to n (by (first | lia | omega)))) run) ?_
  · conv => arg 3; whnf
    conv => arg 4; arg 1; whnf
    walk_at "R"
  · conv => arg 2; whnf
    walk_at "V"
  · apply Exists.intro
    conv => arg 3; whnf
    conv => arg 4; arg 1; whnf
    walk_at "S"
end
section -- QB
noncomputable def fCM : DefRec := fnIx pw 12

/-! ## _law_common -/
noncomputable abbrev cmρ (a b : Slot) : Rho := [(Str.ofString "one", a), (Str.ofString "other", b)]
theorem fCM_rho (a b : D) : rho0 fCM.scope [Str.ofString "one", Str.ofString "other"] [a, b] = cmρ (.val a) (.val b) := by
  unfold rho0 cellKeys localKeys
  conv => lhs; simp only [show fCM.scope.names = _ from by conv => lhs; whnf]
  simp [cellsFrom, List.lookup_cons, ofString_beq]
theorem fCM_test (Φ : Phi) (a b : Int) : Ev Φ fCM.scope.names (cmρ (.val (.int a)) (.val (.int b))) (.T (whT (stAt fCM.body 0)) (!decide (b = 0))) := by
  conv => arg 2; whnf
  conv => arg 4; arg 1; whnf
  walk_at "V"
theorem fCM_turn (Φ : Phi) (a b : Int) (hb : 0 < b) : Run Φ noΨ fCM.scope.names (.B (bodyOf (stAt fCM.body 0))) (cmρ (.val (.int a)) (.val (.int b))) (cmρ (.val (.int b)) (.val (.int (a % b)))) .next := by
  conv => arg 3; whnf
  conv => arg 4; arg 1; whnf
  walk_at "R"
theorem fCM_loop (Φ : Phi) : ∀ (n : Nat) (a b : Nat), b ≤ n → Run Φ noΨ fCM.scope.names (.W (whT (stAt fCM.body 0)) (bodyOf (stAt fCM.body 0))) (cmρ (.val (.int a)) (.val (.int b))) (cmρ (.val (.int (Nat.gcd a b))) (.val (.int 0))) .next
  | 0, a, b, h => by
    have : b = 0 := by (first | lia | omega)
    subst this
    rw [Nat.gcd_zero_right]
    exact .wend (t_to (fCM_test ..) rfl)
  | n + 1, a, b, h => by
    by_cases hb : b = 0
    · subst hb
      rw [Nat.gcd_zero_right]
      exact .wend (t_to (fCM_test ..) rfl)
    · have hlt := Nat.mod_lt a (Nat.pos_of_ne_zero hb)
      have run := fCM_loop Φ n b (a % b) (by (first | lia | omega))
      have e : Nat.gcd b (a % b) = Nat.gcd a b := by rw [Nat.gcd_comm b, ← Nat.gcd_rec, Nat.gcd_comm]
      rw [e] at run
      exact .wcons (t_to (fCM_test ..) (by rw [decide_eq_false (by (first | lia | omega))]; rfl)) (fCM_turn Φ a b (by (first | lia | omega))) (.inl rfl) run
theorem fCM_run (Φ : Phi) (a b : Nat) : Rets Φ noΨ fCM [Str.ofString "one", Str.ofString "other"] [.int a, .int b] (.int (Nat.gcd a b)) := by
  unfold Rets
  rw [fCM_rho]
  have h3 : ∃ ρ', Run Φ noΨ fCM.scope.names (.B (fCM.body.drop 1)) (cmρ (.val (.int (Nat.gcd a b))) (.val (.int 0))) ρ' (.ret (.int (Nat.gcd a b))) := by
    apply Exists.intro
    conv => arg 3; whnf
    conv => arg 4; arg 1; whnf
    walk_at "S"
  obtain ⟨ρ', h3⟩ := h3
  exact ⟨ρ', .cons (s := stAt fCM.body 0) (r := fCM.body.drop 1) (.while (fCM_loop Φ b a b (Nat.le_refl _))) h3⟩
end
section -- QC
noncomputable def fRD : DefRec := fnIx pw 13

/-! ## the octets of rows -/
noncomputable def oc1 (x : Int) (j : Nat) : Int := x + (if 0 < j then 64 else 0) + (j : Int) % 2 * 128
noncomputable def hiO : List Int → List Int
  | [] => []
  | f :: r => oc1 f r.length :: hiO r
theorem hiO_len : ∀ l : List Int, (hiO l).length = l.length
  | [] => rfl
  | f :: r => by simp [hiO, hiO_len r]
theorem hiO_get : ∀ (l : List Int) (i : Nat) (h : i < l.length), (hiO l)[i]? = some (oc1 l[i] (l.length - 1 - i))
  | f :: r, 0, h => by simp [hiO]
  | f :: r, i + 1, h => by
    have h' : i < r.length := by simpa using h
    have := hiO_get r i h'
    rw [hiO, List.getElem?_cons_succ, this]
    simp only [List.getElem_cons_succ, List.length_cons]
    congr 2
    (first | lia | omega)
theorem rangeD_down (n : Nat) (h : n ≤ 10000000) : rangeD ((n : Int) - 1) (-1) (-1) = some ((List.range n).map fun (i : Nat) => D.int ((n : Int) - 1 + i * (-1))) := by
  have e : Builtin.Range.rangeSize ((n : Int) - 1) (-1) (-1) = n := by
    unfold Builtin.Range.rangeSize
    simp
    (first | lia | omega)
  have hs : Builtin.Range.small ((n : Int) - 1) (-1) (-1) = true := by
    unfold Builtin.Range.small
    rw [e]
    simp [Builtin.Range.rangeFitsLong]
    (first | lia | omega)
  unfold rangeD
  rw [e, if_pos ⟨by decide, by decide, hs, by (first | lia | omega), by unfold line24; (first | lia | omega)⟩]
  simp

/-! ## _law_read -/
noncomputable def rowsD (l : List (List Int)) : D := .lst (l.map zl)
noncomputable abbrev rdρ (rs : D) (oc ro pl so to tn : Slot) : Rho := [(Str.ofString "rows", .val rs), (ocS, oc), (Str.ofString "row", ro), (Str.ofString "place", pl), (soS, so), (toS, to), (tnS, tn)]
theorem fRD_rho (o : D) : rho0 fRD.scope [Str.ofString "rows"] [o] = rdρ o .unset .unset .unset .unset .unset .unset := by
  unfold rho0 cellKeys localKeys
  conv => lhs; simp only [show fRD.scope.names = _ from by conv => lhs; whnf]
  simp [cellsFrom, List.lookup_cons, ofString_beq]
noncomputable abbrev inL : Stmt := stAt (bodyOf (stAt fRD.body 1)) 0
theorem fRD_turn (Φ : Phi) (rs : D) (oc row : List Int) (j : Nat) (h : j < row.length) (ho : oc.length < line24) :
    Run Φ noΨ fRD.scope.names (.B (bodyOf inL)) (rdρ rs (.own (oc.map .int)) (.val (zl row)) (.val (.int j)) .unset .unset .unset)
      (rdρ rs (.own ((oc ++ [oc1 row[j] j]).map .int)) (.val (zl row)) (.val (.int j)) .unset .unset .unset) .next := by
  have e1 : idxD (zl row, true) (j : Int) = some (.int row[j], true) := idx_int row true j h
  have e2 : (oc.map D.int).length < line24 := by rw [List.length_map]; exact ho
  generalize row[j] = x at *
  unfold oc1
  generalize zl row = zr at *
  conv => arg 3; whnf
  conv => arg 4; arg 1; whnf
  by_cases hc : 0 < j
  · have hv : (0 : Int) < (j : Int) := by (first | lia | omega)
    rw [if_pos hc]
    walk_at "R"
  · have hv : ¬ ((0 : Int) < (j : Int)) := by (first | lia | omega)
    rw [if_neg hc]
    walk_at "R"
theorem take_snoc {l : List Int} {i : Nat} {x : Int} (h : l[i]? = some x) : l.take (i + 1) = l.take i ++ [x] := by rw [List.take_add_one, h]; rfl
theorem fRD_row (Φ : Phi) (rs : D) (oc row : List Int) (pl : Slot) (hp : plain pl) (hr : row.length ≤ 1000) (ho : oc.length + 1000 < line24) :
    ∃ pl', plain pl' ∧ Run Φ noΨ fRD.scope.names (.B (bodyOf (stAt fRD.body 1))) (rdρ rs (.own (oc.map .int)) (.val (zl row)) pl .unset .unset .unset)
      (rdρ rs (.own ((oc ++ hiO row.reverse).map .int)) (.val (zl row)) pl' .unset .unset .unset) .next := by
  obtain ⟨ρ', run, pl', h1, rfl⟩ := run_range (Φ := Φ) (Ψ := noΨ) (nm := fRD.scope.names) (tgt := forT inL) (body := bodyOf inL) (n := row.length) (fun (i : Nat) => D.int ((row.length : Int) - 1 + i * (-1)))
    (fun i ρ => ∃ pl, plain pl ∧ ρ = rdρ rs (.own ((oc ++ (hiO row.reverse).take i).map .int)) (.val (zl row)) pl .unset .unset .unset) (fun i ρ hi e => by
      obtain ⟨pl, hp, rfl⟩ := e
      have e1 : (row.length : Int) - 1 + i * (-1) = ((row.length - 1 - i : Nat) : Int) := by (first | lia | omega)
      rw [e1]
      have hg := hiO_get row.reverse i (by rw [List.length_reverse]; exact hi)
      simp only [List.getElem_reverse, List.length_reverse] at hg
      have t := fRD_turn Φ rs (oc ++ (hiO row.reverse).take i) row (row.length - 1 - i) (by (first | lia | omega)) (by rw [List.length_append, List.length_take, hiO_len, List.length_reverse]; (first | lia | omega))
      rw [List.append_assoc, ← take_snoc hg] at t
      exact ⟨_, _, by walk_at "A", t, _, plain_val _, rfl⟩) (ρ := rdρ rs (.own (oc.map .int)) (.val (zl row)) pl .unset .unset .unset) ⟨pl, hp, by rw [List.take_zero, List.append_nil]⟩
  rw [List.take_of_length_le (by rw [hiO_len, List.length_reverse]; exact Nat.le_refl _)] at run
  refine ⟨pl', h1, ?_⟩
  refine .cons (s := inL) (r := []) (.for rfl (Ev.i_rng3 (f := true) rfl ?_ (rangeD_down row.length (by (first | lia | omega)))) run) .nil
  conv => arg 2; whnf
  have e3 : builtD (Str.ofString "len") [zl row] = some (some (.int row.length)) := congrArg (fun n : Nat => some (some (D.int n))) (List.length_map D.int)
  generalize zl row = zr at *
  walk_at "V"
noncomputable def octsR (rows : List (List Int)) : List Int := rows.flatMap fun r => hiO r.reverse
theorem fRD_loop (Φ : Phi) (rows : List (List Int)) (hr : ∀ r ∈ rows, r.length ≤ 1000) (hn : rows.length ≤ 1000) :
    ∃ ro pl, plain ro ∧ plain pl ∧ Run Φ noΨ fRD.scope.names (.S (stAt fRD.body 1)) (rdρ (rowsD rows) (.own []) .unset .unset .unset .unset .unset)
      (rdρ (rowsD rows) (.own ((octsR rows).map .int)) ro pl .unset .unset .unset) .next := by
  obtain ⟨ρ', run, ro, pl, h1, h2, h3, h4, rfl⟩ := run_for (Φ := Φ) (Ψ := noΨ) (nm := fRD.scope.names) (tgt := forT (stAt fRD.body 1)) (body := bodyOf (stAt fRD.body 1)) zl
    (fun (a : List Int) bs ρ => ∃ ro pl, plain ro ∧ plain pl ∧ a.length + 1000 * bs.length ≤ 1000000 ∧ (∀ b ∈ bs, b ∈ rows) ∧ ρ = rdρ (rowsD rows) (.own (a.map .int)) ro pl .unset .unset .unset) (fun a b => a ++ hiO b.reverse) (fun a b bs ρ e => by
      obtain ⟨ro, pl, h1, h2, h3, h4, rfl⟩ := e
      rw [List.length_cons] at h3
      have hb := hr b (h4 b List.mem_cons_self)
      obtain ⟨pl', h5, t⟩ := fRD_row Φ (rowsD rows) a b pl h2 hb (by unfold line24; (first | lia | omega))
      exact ⟨rdρ (rowsD rows) (.own (a.map .int)) (.val (zl b)) pl .unset .unset .unset, _, by walk_at "A", t, _, _, plain_val _, h5, by rw [List.length_append, hiO_len, List.length_reverse]; (first | lia | omega), fun y hy => h4 y (List.mem_cons_of_mem _ hy), rfl⟩)
    rows [] (rdρ (rowsD rows) (.own []) .unset .unset .unset .unset .unset) ⟨_, _, plain_unset, plain_unset, by simp; (first | lia | omega), fun _ h => h, rfl⟩
  have e : rows.foldl (fun a b => a ++ hiO b.reverse) [] = octsR rows := by
    have : ∀ (l : List (List Int)) (a : List Int), l.foldl (fun a b => a ++ hiO b.reverse) a = a ++ l.flatMap fun r => hiO r.reverse := by
      intro l
      induction l with
      | nil => simp
      | cons x r ih => intro a; rw [List.foldl_cons, ih, List.flatMap_cons, List.append_assoc]
    exact (this rows []).trans (List.nil_append _)
  rw [e] at run
  refine ⟨ro, pl, h1, h2, .for (ds := rows.map zl) rfl ?_ run⟩
  show Ev Φ fRD.scope.names _ (.I (forI (stAt fRD.body 1)) _)
  conv => arg 2; whnf
  conv => arg 4; arg 1; whnf
  walk_at "V"
theorem nums_hiO : ∀ (l : List Int) (acc : Int) (rest : List Int), l ≠ [] → (∀ x ∈ l, 0 ≤ x ∧ x < 64) → nums acc (hiO l ++ rest) = (acc * 2 ^ (6 * l.length) + d2i 6 l.reverse) :: nums 0 rest
  | [f], acc, rest, _, h => by
    obtain ⟨h1, h2⟩ := h f List.mem_cons_self
    show nums acc (oc1 f 0 :: rest) = _
    have e : oc1 f 0 = f := by unfold oc1; simp
    rw [e, nums, if_pos (by (first | lia | omega)), Int.emod_eq_of_lt h1 h2]
    congr 1
    simp [d2i]
  | f :: g :: r, acc, rest, _, h => by
    obtain ⟨h1, h2⟩ := h f List.mem_cons_self
    show nums acc (oc1 f (r.length + 1) :: (hiO (g :: r) ++ rest)) = _
    have e : oc1 f (r.length + 1) = f + 64 + ((r.length + 1 : Nat) : Int) % 2 * 128 := by unfold oc1; rw [if_pos (Nat.succ_pos _)]
    rw [e, nums, if_neg (by (first | lia | omega)), nums_hiO (g :: r) _ rest (by simp) fun x hx => h x (List.mem_cons_of_mem _ hx)]
    congr 1
    have e2 : (f + 64 + ((r.length + 1 : Nat) : Int) % 2 * 128) % 64 = f := by (first | lia | omega)
    rw [e2, List.reverse_cons (a := f), d2i_append, List.length_reverse, List.length_cons (a := f)]
    generalize (g :: r) = q
    simp only [d2i]
    rw [Nat.mul_add 6 q.length 1, Int.pow_add, Int.add_mul, ← Int.mul_assoc]
    have : acc * 64 * 2 ^ (6 * q.length) = acc * 2 ^ (6 * q.length) * 2 ^ (6 * 1) := by rw [Int.mul_right_comm]; rfl
    rw [this, Int.mul_comm f]
    simp only [Int.mul_zero, Int.add_zero]
    (first | lia | omega)
theorem nums_octs : ∀ rows : List (List Int), (∀ r ∈ rows, r ≠ [] ∧ ∀ x ∈ r, 0 ≤ x ∧ x < 64) → nums 0 (octsR rows) = rows.map (d2i 6)
  | [], _ => rfl
  | r :: rows, h => by
    obtain ⟨h1, h2⟩ := h r List.mem_cons_self
    show nums 0 (hiO r.reverse ++ octsR rows) = _
    rw [nums_hiO r.reverse 0 _ (by simpa using h1) (fun x hx => h2 x (List.mem_reverse.mp hx)), nums_octs rows fun q hq => h q (List.mem_cons_of_mem _ hq), List.reverse_reverse]
    simp
end
section -- QD
noncomputable def fHF : DefRec := fnIx pw 14

/-! ## _law_half -/
noncomputable abbrev hfρ (nu po bo : D) (a h d f q r : Slot) : Rho := [(Str.ofString "number", .val nu), (Str.ofString "power", .val po), (Str.ofString "bound", .val bo), (Str.ofString "above", a), (Str.ofString "here", h), (Str.ofString "ahead", d), (Str.ofString "factor", f), (Str.ofString "quotient", q), (Str.ofString "rest", r)]
theorem fHF_rho (a b c : D) : rho0 fHF.scope [Str.ofString "number", Str.ofString "power", Str.ofString "bound"] [a, b, c] = hfρ a b c .unset .unset .unset .unset .unset .unset := by
  unfold rho0 cellKeys localKeys
  conv => lhs; simp only [show fHF.scope.names = _ from by conv => lhs; whnf]
  simp [cellsFrom, List.lookup_cons, ofString_beq]
theorem fHF_test (Φ : Phi) (nu po : D) (B h : Int) (a d f q r : Slot) : Ev Φ fHF.scope.names (hfρ nu po (.int B) a (.val (.int h)) d f q r) (.T (whT (stAt fHF.body 2)) (decide (B < h))) := by
  conv => arg 2; whnf
  conv => arg 4; arg 1; whnf
  walk_at "V"
theorem fHF_turn (Φ : Phi) (nu po bo : D) (a h d f : Int) (q r : Slot) (hq : plain q) (hr : plain r) (h0 : 0 < h) (hf : mulFit (a / h) f = true) (hΦ : Φ (Str.ofString "int_divmod") [.int a, .int h] = some (.tup [.int (a / h), .int (a % h)])) :
    Run Φ noΨ fHF.scope.names (.B (bodyOf (stAt fHF.body 2))) (hfρ nu po bo (.val (.int a)) (.val (.int h)) (.val (.int d)) (.val (.int f)) q r)
      (hfρ nu po bo (.val (.int h)) (.val (.int (a % h))) (.val (.int f)) (.val (.int (d - a / h * f))) (.val (.int (a / h))) (.val (.int (a % h)))) .next := by
  have h1 := Int.emod_nonneg a (show h ≠ 0 by (first | lia | omega))
  have h2 := Int.emod_lt_of_pos a h0
  have hv : (decide (a % h < 0) || (decide (h ≤ a % h) || false)) = false := by
    rw [decide_eq_false (by (first | lia | omega)), decide_eq_false (by (first | lia | omega))]; rfl
  conv => arg 3; whnf
  conv => arg 4; arg 1; whnf
  walk_at "R"
noncomputable def hfF (B : Int) : Nat → Int → Int → Int → Int → Int × Int
  | 0, _, h, _, f => (h, f)
  | n + 1, a, h, d, f => if B < h then hfF B n h (a % h) f (d - a / h * f) else (h, f)
theorem fHF_loop (Φ : Phi) (hΦ : DmOk Φ) (nu po : D) (B : Int) (hB : 0 ≤ B) : ∀ (n : Nat) (a h d f : Int) (q r : Slot), plain q → plain r → 0 ≤ h → h.toNat ≤ n → 0 ≤ a → a < 2 ^ 59 → h < 2 ^ 59 →
    ∃ a' d' q' r', Run Φ noΨ fHF.scope.names (.W (whT (stAt fHF.body 2)) (bodyOf (stAt fHF.body 2))) (hfρ nu po (.int B) (.val (.int a)) (.val (.int h)) (.val (.int d)) (.val (.int f)) q r)
      (hfρ nu po (.int B) a' (.val (.int (hfF B n a h d f).1)) d' (.val (.int (hfF B n a h d f).2)) q' r') .next
  | 0, a, h, d, f, q, r, hq, hr, h0, hn, ha, ha2, hh => ⟨_, _, _, _, .wend (t_to (fHF_test ..) (decide_eq_false (by (first | lia | omega))))⟩
  | n + 1, a, h, d, f, q, r, hq, hr, h0, hn, ha, ha2, hh => by
    by_cases hc : B < h
    · have hp : 0 < h := by (first | lia | omega)
      have h1 := Int.emod_nonneg a (show h ≠ 0 by (first | lia | omega))
      have h2 := Int.emod_lt_of_pos a hp
      have h3 : (2 : Int) ^ 59 < 2 ^ 2900 := Int.lt_of_lt_of_le (show (2 : Int) ^ 59 < 2 ^ 60 by decide) (pow2_le (by decide))
      have h4 : 0 ≤ a / h := Int.ediv_nonneg ha h0
      have h5 : a / h ≤ a := Int.ediv_le_self _ ha
      have h6 : (a / h).natAbs < 2 ^ 60 := by
        generalize a / h = x at *
        have : (2 : Int) ^ 59 = 576460752303423488 := by decide
        have : (2 : Nat) ^ 60 = 1152921504606846976 := by decide
        (first | lia | omega)
      have turn := fHF_turn Φ nu po (.int B) a h d f q r hq hr hp (mulFit_l (log60_of h6)) (dm_1 hΦ hp (by (first | lia | omega)) (by (first | lia | omega)) (by (first | lia | omega)))
      obtain ⟨a', d', q', r', run⟩ := fHF_loop Φ hΦ nu po B hB n h (a % h) f (d - a / h * f) (.val (.int (a / h))) (.val (.int (a % h))) (plain_val _) (plain_val _) h1 (by (first | lia | omega)) h0 hh (by (first | lia | omega))
      refine ⟨a', d', q', r', ?_⟩
      rw [hfF, if_pos hc]
      exact .wcons (t_to (fHF_test ..) (decide_eq_true hc)) turn (.inl rfl) run
    · rw [hfF, if_neg hc]
      exact ⟨_, _, _, _, .wend (t_to (fHF_test ..) (decide_eq_false hc))⟩
noncomputable def half (N M B : Int) : Int × Int :=
  if (hfF B N.toNat M N 0 1).2 < 0 then (-(hfF B N.toNat M N 0 1).1, -(hfF B N.toNat M N 0 1).2) else hfF B N.toNat M N 0 1
theorem fHF_run (Φ : Phi) (hΦ : DmOk Φ) (N M B : Int) (hB : 0 ≤ B) (hN : 0 ≤ N) (hN2 : N < 2 ^ 59) (hM : 0 ≤ M) (hM2 : M < 2 ^ 59) :
    Rets Φ noΨ fHF [Str.ofString "number", Str.ofString "power", Str.ofString "bound"] [.int N, .int M, .int B] (pr1 (half N M B)) := by
  unfold Rets
  rw [fHF_rho]
  obtain ⟨a, d, q, r, run⟩ := fHF_loop Φ hΦ (.int N) (.int M) B hB N.toNat M N 0 1 .unset .unset plain_unset plain_unset hN (Nat.le_refl _) hM hM2 hN2
  refine run_three 2 (s := stAt fHF.body 2) (r := fHF.body.drop 3) (ρ₁ := hfρ (.int N) (.int M) (.int B) (.val (.int M)) (.val (.int N)) (.val (.int 0)) (.val (.int 1)) .unset .unset) rfl ?_ (.while run) ?_
  · conv => arg 3; whnf
    conv => arg 4; arg 1; whnf
    have p0 := plain_unset
    walk_at "R"
  · unfold half
    generalize hfF B N.toNat M N 0 1 = p
    obtain ⟨h, f⟩ := p
    dsimp only
    apply Exists.intro
    conv => arg 3; whnf
    conv => arg 4; arg 1; whnf
    by_cases hf : f < 0
    · rw [if_pos hf]
      walk_at "S"
    · rw [if_neg hf]
      walk_at "S"
end
section -- QE
noncomputable def fTW : DefRec := fnIx pw 15

/-! ## _law_two_figures -/
noncomputable abbrev twρ (n : D) (be ov du lo up : Slot) : Rho := [(Str.ofString "below", be), (Str.ofString "over", ov), (Str.ofString "number", .val n), (Str.ofString "due", du), (Str.ofString "lower", lo), (Str.ofString "upper", up)]
theorem fTW_rho (n : D) : rho0 fTW.scope [Str.ofString "number"] [n] = twρ n (.cel none) (.cel none) .unset .unset .unset := by
  unfold rho0 cellKeys localKeys
  conv => lhs; simp only [show fTW.scope.names = _ from by conv => lhs; whnf]
  simp [cellsFrom, List.lookup_cons, ofString_beq]
noncomputable def odds : List Int := (List.range 20).map fun (i : Nat) => 1 + (i : Int) * 2
theorem rangeD_odds : rangeD 1 41 2 = some (odds.map .int) := by
  unfold rangeD
  rw [if_pos ⟨by decide, by decide, by decide, by decide, by decide⟩]
  rfl
noncomputable def upF (n l : Int) : Int := (n * l + 40) % 4096 - 40
noncomputable def duS (n : Int) (a : List (Int × Int)) (l : Int) : List (Int × Int) := if upF n l ≤ 40 then a ++ [(upF n l, l)] else a
theorem fTW_turn (Φ : Phi) (n l : Int) (be ov up : Slot) (a : List (Int × Int)) (hu : plain up) (hn : log60 n = true) (ha : a.length < line24) :
    Run Φ noΨ fTW.scope.names (.B (bodyOf (stAt fTW.body 1))) (twρ (.int n) be ov (.own (a.map pr1)) (.val (.int l)) up)
      (twρ (.int n) be ov (.own ((duS n a l).map pr1)) (.val (.int l)) (.val (.int (upF n l)))) .next := by
  have e1 : mulFit n l = true := mulFit_l hn
  have e2 : (a.map pr1).length < line24 := by rw [List.length_map]; exact ha
  unfold duS
  conv => arg 3; whnf
  conv => arg 4; arg 1; whnf
  by_cases hc : upF n l ≤ 40
  · have hv : decide ((n * l + 40) % 4096 - 40 ≤ 40) = true := decide_eq_true hc
    rw [if_pos hc]
    walk_at "R"
  · have hv : decide ((n * l + 40) % 4096 - 40 ≤ 40) = false := decide_eq_false hc
    rw [if_neg hc]
    walk_at "R"
noncomputable def duF (n : Int) : List (Int × Int) := odds.foldl (duS n) []
theorem fTW_loop (Φ : Phi) (n : Int) (hn : log60 n = true) : ∃ lo up, plain lo ∧ plain up ∧ Run Φ noΨ fTW.scope.names (.S (stAt fTW.body 1)) (twρ (.int n) (.cel none) (.cel none) (.own []) .unset .unset)
      (twρ (.int n) (.cel none) (.cel none) (.own ((duF n).map pr1)) lo up) .next := by
  obtain ⟨ρ', run, lo, up, h1, h2, h3, rfl⟩ := run_for (Φ := Φ) (Ψ := noΨ) (nm := fTW.scope.names) (tgt := forT (stAt fTW.body 1)) (body := bodyOf (stAt fTW.body 1)) D.int
    (fun (a : List (Int × Int)) bs ρ => ∃ lo up, plain lo ∧ plain up ∧ a.length + bs.length ≤ 1000 ∧ ρ = twρ (.int n) (.cel none) (.cel none) (.own (a.map pr1)) lo up) (duS n) (fun a b bs ρ e => by
      obtain ⟨lo, up, h1, h2, h3, rfl⟩ := e
      rw [List.length_cons] at h3
      refine ⟨twρ (.int n) (.cel none) (.cel none) (.own (a.map pr1)) (.val (.int b)) up, _, by walk_at "A", fTW_turn Φ n b _ _ up a h2 hn (by unfold line24; (first | lia | omega)), _, _, plain_val _, plain_val _, ?_, rfl⟩
      unfold duS
      split
      · rw [List.length_append, List.length_singleton]; (first | lia | omega)
      · (first | lia | omega)) odds [] (twρ (.int n) (.cel none) (.cel none) (.own []) .unset .unset) ⟨_, _, plain_unset, plain_unset, by decide, rfl⟩
  refine ⟨lo, up, h1, h2, .for rfl ?_ run⟩
  show Ev Φ fTW.scope.names _ (.I (forI (stAt fTW.body 1)) _)
  conv => arg 2; whnf
  conv => arg 4; arg 1; whnf
  refine Ev.i_rng3 (f := true) rfl ?_ rangeD_odds
  walk_at "V"
noncomputable def absI (x : Int) : Int := if x < 0 then -x else x
noncomputable def twT (ov be k : Int) : Bool := (decide (k * be ≤ 40) && (decide (absI (k * ov) ≤ 40) && true)) && true
theorem fTW_run (Φ : Phi) (n ov be : Int) (hn : log60 n = true) (hH : Φ (Str.ofString "_law_half") [.int n, .int 4096, .int 40] = some (pr1 (ov, be)))
    (hd : if be % 2 = 0 then duF n = [] else duF n = (odds.filter (twT ov be)).map fun k => (k * ov, k * be)) : Rets Φ noΨ fTW [Str.ofString "number"] [.int n] (.bool true) := by
  unfold Rets
  rw [fTW_rho]
  obtain ⟨lo, up, h1, h2, run⟩ := fTW_loop Φ n hn
  refine run_three 1 (s := stAt fTW.body 1) (r := fTW.body.drop 2) (ρ₁ := twρ (.int n) (.cel none) (.cel none) (.own []) .unset .unset) rfl ?_ run ?_
  · conv => arg 3; whnf
    conv => arg 4; arg 1; whnf
    walk_at "R"
  have dd : ∀ l : List (Int × Int), (prD l).dep ≤ 60 := fun l => by
    have := deps_pr l
    unfold prD
    rw [D.dep]; (first | lia | omega)
  unfold pr1 at hH
  by_cases hb : be % 2 = 0
  · rw [if_pos hb] at hd
    rw [hd]
    have q1 : cmpR .Eq (.lst [], true) (.lst [], true) = some true := q_eqD (by decide) (by decide) eqD_00
    have hv : decide (be % 2 = 0) = true := decide_eq_true hb
    apply Exists.intro
    conv => arg 3; whnf
    conv => arg 4; arg 1; whnf
    walk_at "S"
  · rw [if_neg hb] at hd
    have hv : decide (be % 2 = 0) = false := decide_eq_false hb
    have q1 : cmpR .Eq (prD (duF n), true) (prD (duF n), true) = some true := q_eqD (dd _) (dd _) (eqD_refl _)
    have hc : prD (duF n) = .lst ((odds.filter (twT ov be)).map fun k => pr1 (k * ov, k * be)) := by rw [hd]; unfold prD; rw [List.map_map]; rfl
    have r2 : Run Φ noΨ fTW.scope.names (.B ((fTW.body.drop 2).take 2)) (twρ (.int n) (.cel none) (.cel none) (.own ((duF n).map pr1)) lo up) (twρ (.int n) (.cel (some (.int be))) (.cel (some (.int ov))) (.own ((duF n).map pr1)) lo up) .next := by
      conv => arg 3; whnf
      conv => arg 4; arg 1; whnf
      walk_at "R"
    have hl := h1.z
    have hu := h2.z
    refine ⟨twρ (.int n) (.cel (some (.int be))) (.cel (some (.int ov))) (.own ((duF n).map pr1)) lo up, run_split 2 r2 ?_⟩
    refine .stop (.ret (Ev.cmp (a := (prD (duF n), true)) (b := (prD (duF n), true)) ?_ ?_ ?_ q1)) (by intro e; cases e)
    · rfl
    · conv => arg 2; whnf
      exact Ev.n rfl
    · rw [hc]
      refine Ev.comp (xs := odds) (item := .int) (bs := fun x => [(Str.ofString "k", .val (.int x))]) (t := twT ov be) (g := fun k => pr1 (k * ov, k * be)) (by decide +kernel) (Ev.i_rng3 (f := true) rfl ?_ rangeD_odds) (fun x hx => rfl) (fun x hx => ?_) (fun x hx _ => ?_)
      · conv => arg 2; whnf
        walk_at "V"
      · have hx60 : log60 x = true := by
          obtain ⟨i, hi, rfl⟩ := List.mem_map.mp hx
          have := List.mem_range.mp hi
          exact log60_of (by (first | lia | omega))
        have m1 : mulFit x be = true := mulFit_l hx60
        have m2 : mulFit x ov = true := mulFit_l hx60
        have m3 : builtD (Str.ofString "abs") [.int (x * ov)] = some (some (.int (absI (x * ov)))) := by simp [builtD, ofString_eq, absI]
        unfold twT
        walk_at "E"
      · have hx60 : log60 x = true := by
          obtain ⟨i, hi, rfl⟩ := List.mem_map.mp hx
          have := List.mem_range.mp hi
          exact log60_of (by (first | lia | omega))
        have m1 : mulFit x be = true := mulFit_l hx60
        have m2 : mulFit x ov = true := mulFit_l hx60
        walk_at "V"
end
section -- QF
noncomputable def fLA : DefRec := fnIx pw 16

/-! ## law -/
noncomputable abbrev laρ (xs : List Int) (sp to lg fi wi po bo lo up fg us k sm pa rw nu co mo ov be nb : Slot) : Rho :=
  [(Str.ofString "spot", sp), (Str.ofString "total", to), (Str.ofString "longer", lg), (Str.ofString "script", .val (zl xs)), (Str.ofString "first", fi), (Str.ofString "width", wi), (Str.ofString "power", po), (Str.ofString "bound", bo), (Str.ofString "lower", lo), (Str.ofString "upper", up), (Str.ofString "figures", fg), (Str.ofString "uppers", us), (Str.ofString "k", k), (Str.ofString "smudged", sm), (Str.ofString "pairs", pa), (Str.ofString "rows", rw), (Str.ofString "numbers", nu), (Str.ofString "common", co), (Str.ofString "more", mo), (Str.ofString "over", ov), (Str.ofString "below", be), (Str.ofString "number", nb)]
theorem fLA_rho (xs : List Int) : rho0 fLA.scope [Str.ofString "script"] [zl xs] = laρ xs (.cel none) (.cel none) (.cel none) .unset .unset .unset .unset .unset .unset .unset .unset .unset .unset .unset .unset .unset .unset .unset .unset .unset .unset := by
  unfold rho0 cellKeys localKeys
  conv => lhs; simp only [show fLA.scope.names = _ from by conv => lhs; whnf]
  simp [cellsFrom, List.lookup_cons, ofString_beq]
noncomputable def firstF (xs : List Int) : Int := match xs with
  | [] => 1
  | a :: _ => a
theorem fLA_0 (Φ : Phi) (xs : List Int) : Run Φ noΨ fLA.scope.names (.B (fLA.body.take 2)) (laρ xs (.cel none) (.cel none) (.cel none) .unset .unset .unset .unset .unset .unset .unset .unset .unset .unset .unset .unset .unset .unset .unset .unset .unset .unset)
    (laρ xs (.cel none) (.cel none) (.cel none) (.val (.int (firstF xs))) (.val (.int (2 + firstF xs % 3))) .unset .unset .unset .unset .unset .unset .unset .unset .unset .unset .unset .unset .unset .unset .unset .unset) .next := by
  have e8 : (xs.map D.int).isEmpty = true ∧ firstF xs = 1 ∨ (xs.map D.int).isEmpty = false ∧ idxD (zl xs, true) 0 = some (.int (firstF xs), true) := by
    cases xs with
    | nil => exact .inl ⟨rfl, rfl⟩
    | cons a r => exact .inr ⟨by simp, idx_zero _ _⟩
  generalize firstF xs = fi at *
  conv => arg 3; whnf
  conv => arg 4; arg 1; whnf
  rcases e8 with ⟨e8, rfl⟩ | ⟨e8, e9⟩
  · have hv : (!(xs.map D.int).isEmpty) = false := by rw [e8]; rfl
    walk_at "R"
  · have hv : (!(xs.map D.int).isEmpty) = true := by rw [e8]; rfl
    walk_at "R"
noncomputable def loF (p8 a : Int) : Int := 1 + 2 * ((57 + 40503 * a) % (5 * p8 / 2))
noncomputable def upF2 (p8 a : Int) : Int := (91 + 30011 * a) % (2 * (5 * p8) + 1) - 5 * p8
theorem fLA_2 (Φ : Phi) (xs : List Int) (fi : D) (w : Nat) (hw : w ≤ 1000) (p8 : Int) (e1 : bopR .Pow (.int 8, true) (.int ((w : Int) - 1), true) = some (.int p8, true)) (hB : 0 < 5 * p8 / 2) (hB2 : 0 < 2 * (5 * p8) + 1)
    (r1 r2 : List Int) (h6 : pickD (xs.map .int) (some 1) none (some 2) = r1.map .int) (h7 : pickD (xs.map .int) (some 2) none (some 2) = r2.map .int) (h8 : (r1.map D.int).length ≤ line24) (h9 : (r2.map D.int).length ≤ line24) :
    Run Φ noΨ fLA.scope.names (.B ((fLA.body.drop 2).take 4)) (laρ xs (.cel none) (.cel none) (.cel none) (.val fi) (.val (.int w)) .unset .unset .unset .unset .unset .unset .unset .unset .unset .unset .unset .unset .unset .unset .unset .unset)
    (laρ xs (.cel none) (.cel none) (.cel none) (.val fi) (.val (.int w)) (.val (.int (64 ^ w))) (.val (.int (5 * p8))) (.val (.int (loF p8 r1.sum))) (.val (.int (upF2 p8 r2.sum))) .unset .unset .unset .unset .unset .unset .unset .unset .unset .unset .unset .unset) .next := by
  have s1 : builtD (Str.ofString "sum") [.lst (r1.map .int)] = some (some (.int r1.sum)) := by simp [builtD, ofString_eq, intsOf_map]
  have s2 : builtD (Str.ofString "sum") [.lst (r2.map .int)] = some (some (.int r2.sum)) := by simp [builtD, ofString_eq, intsOf_map]
  generalize r1.sum = a1 at *
  generalize r2.sum = a2 at *
  conv => arg 3; whnf
  conv => arg 4; arg 1; whnf
  walk_at "R"
theorem fLA_6 (Φ : Phi) (xs : List Int) (fi po bo : D) (w : Nat) (hw : 0 < 2 * (w : Int)) (lo up : Int) (fg us : List Int) (hfg : ((fg.drop w).map D.int).length ≤ line24)
    (hS : Φ (Str.ofString "_law_stream") [.int up, .int lo, .int (3 * (w : Int))] = some (.tup [zl fg, zl us])) :
    Run Φ noΨ fLA.scope.names (.B ((fLA.body.drop 6).take 4)) (laρ xs (.cel none) (.cel none) (.cel none) (.val fi) (.val (.int w)) (.val po) (.val bo) (.val (.int lo)) (.val (.int up)) .unset .unset .unset .unset .unset .unset .unset .unset .unset .unset .unset .unset)
    (laρ xs (.cel (some (.int (xs.sum % (2 * (w : Int)))))) (.cel (some (.int xs.sum))) (.cel (some (zl (fg.drop w)))) (.val fi) (.val (.int w)) (.val po) (.val bo) (.val (.int lo)) (.val (.int up)) (.val (zl fg)) (.val (zl us)) .unset .unset .unset .unset .unset .unset .unset .unset .unset .unset) .next := by
  have s1 : builtD (Str.ofString "sum") [zl xs] = some (some (.int xs.sum)) := by simp [builtD, ofString_eq, zl, intsOf_map]
  have e1 : pickD (fg.map .int) (some (w : Int)) none none = (fg.drop w).map .int := by rw [pickD_from, List.map_drop]
  generalize xs.sum = a1 at *
  conv => arg 3; whnf
  conv => arg 4; arg 1; whnf
  walk_at "R"
noncomputable def smF (lg : List Int) (to sp : Int) (n : Nat) : List Int := (List.range n).map fun k => (lg.getD k 0 + (if (k : Int) = sp then 1 + to / 7 % 63 else 0)) % 64
theorem fLA_10 (Φ : Phi) (xs lg : List Int) (fi po bo lo up fg us : D) (w : Nat) (hw : w ≤ 1000) (to sp : Int) (hl : lg.length = 2 * w) :
    Run Φ noΨ fLA.scope.names (.S (stAt fLA.body 10)) (laρ xs (.cel (some (.int sp))) (.cel (some (.int to))) (.cel (some (zl lg))) (.val fi) (.val (.int w)) (.val po) (.val bo) (.val lo) (.val up) (.val fg) (.val us) .unset .unset .unset .unset .unset .unset .unset .unset .unset .unset)
    (laρ xs (.cel (some (.int sp))) (.cel (some (.int to))) (.cel (some (zl lg))) (.val fi) (.val (.int w)) (.val po) (.val bo) (.val lo) (.val up) (.val fg) (.val us) .unset (.val (zl (smF lg to sp (2 * w)))) .unset .unset .unset .unset .unset .unset .unset .unset) .next := by
  refine .asg (d := zl (smF lg to sp (2 * w))) ?_ ?_ rfl
  · have e : zl (smF lg to sp (2 * w)) = .lst ((List.range (2 * w)).map fun k => .int ((lg.getD k 0 + (if (k : Int) = sp then 1 + to / 7 % 63 else 0)) % 64)) := by unfold zl smF; rw [List.map_map]; rfl
    rw [e]
    refine ev_comp (item := fun (i : Nat) => .int i) (by decide +kernel) (Ev.i_rng (b := 2 * (w : Int)) (f := true) rfl ?_ (rangeD_to (2 * w) (by (first | lia | omega)))) fun i hi => ?_
    · conv => arg 2; whnf
      walk_at "V"
    · refine ⟨[(Str.ofString "k", .val (.int i))], by rfl, ?_⟩
      have hi' : i < lg.length := by rw [hl]; exact List.mem_range.mp hi
      have e4 : idxD (zl lg, true) (i : Int) = some (.int (lg.getD i 0), true) := by
        have h := idx_int lg true i hi'
        have h2 : lg[i] = lg.getD i 0 := by simp [List.getD, hi']
        rw [h2] at h
        exact h
      generalize lg.getD i 0 = x at *
      generalize zl lg = zg at *
      by_cases hc : (i : Int) = sp
      · rw [if_pos hc]
        walk_at "V"
      · rw [if_neg hc]
        walk_at "V"
  · walk_at "A"
noncomputable def paF (xs : List Int) : List Int := [2731, 1024, 41] ++ (xs.take 2).map (fun x => (2731 + 1237 * x) % 4096)
theorem fLA_11 (Φ : Phi) (xs : List Int) (sp to lg fi wi po bo lo up fg us sm : D) :
    Run Φ noΨ fLA.scope.names (.S (stAt fLA.body 11)) (laρ xs (.cel (some sp)) (.cel (some to)) (.cel (some lg)) (.val fi) (.val wi) (.val po) (.val bo) (.val lo) (.val up) (.val fg) (.val us) .unset (.val sm) .unset .unset .unset .unset .unset .unset .unset .unset)
    (laρ xs (.cel (some sp)) (.cel (some to)) (.cel (some lg)) (.val fi) (.val wi) (.val po) (.val bo) (.val lo) (.val up) (.val fg) (.val us) .unset (.val sm) (.val (zl (paF xs))) .unset .unset .unset .unset .unset .unset .unset) .next := by
  refine .asg (d := zl (paF xs)) (Ev.bin (a := (.lst ([2731, 1024, 41].map .int), true)) (b := (.lst ((xs.take 2).map (fun x => .int ((2731 + 1237 * x) % 4096))), true)) ?_ (ev_comp (item := .int) (g := fun x => .int ((2731 + 1237 * x) % 4096)) (by decide +kernel) ?_ fun x hx => ?_) ?_) ?_ rfl
  · conv => arg 2; whnf
    walk_at "V"
  · conv => arg 2; whnf
    have h8 : pickD (xs.map .int) none (some 2) none = (xs.take 2).map .int := by rw [List.map_take]; exact pickD_to _ 2
    have h9 : ((xs.take 2).map D.int).length ≤ line24 := by rw [List.length_map, List.length_take]; unfold line24; (first | lia | omega)
    walk_at "V"
  · refine ⟨[(Str.ofString "x", .val (.int x))], by rfl, ?_⟩
    walk_at "V"
  · have h := bop_ints (a := [2731, 1024, 41]) (b := (xs.take 2).map (fun x => (2731 + 1237 * x) % 4096)) (f := true) (g := true) (by rw [List.length_map, List.length_take]; unfold line24; simp; (first | lia | omega))
    rw [List.map_map] at h
    exact h
  · walk_at "A"
end
section -- QG
theorem len_le {l : List Int} {n : Nat} (h : l.length ≤ 10000) : (l.map D.int).length ≤ line24 := by rw [List.length_map]; unfold line24; (first | lia | omega)
theorem fLA_12 (Φ : Phi) (xs fg lg sm : List Int) (sp to fi po bo lo up us pa : D) (w : Nat) (hf : fg.length ≤ 10000) (hl : lg.length ≤ 10000) :
    Run Φ noΨ fLA.scope.names (.S (stAt fLA.body 12)) (laρ xs (.cel (some sp)) (.cel (some to)) (.cel (some (zl lg))) (.val fi) (.val (.int w)) (.val po) (.val bo) (.val lo) (.val up) (.val (zl fg)) (.val us) .unset (.val (zl sm)) (.val pa) .unset .unset .unset .unset .unset .unset .unset)
    (laρ xs (.cel (some sp)) (.cel (some to)) (.cel (some (zl lg))) (.val fi) (.val (.int w)) (.val po) (.val bo) (.val lo) (.val up) (.val (zl fg)) (.val us) .unset (.val (zl sm)) (.val pa) (.val (rowsD [fg.take w, lg.take w, lg.drop w, lg, sm])) .unset .unset .unset .unset .unset .unset) .next := by
  refine .asg (d := rowsD [fg.take w, lg.take w, lg.drop w, lg, sm]) (Ev.lst (ds := [zl (fg.take w), zl (lg.take w), zl (lg.drop w), zl lg, zl sm]) (f := true) ?_ (sq_ok (Nat.le_of_ble_eq_true rfl) rfl)) ?_ rfl
  · have p1 : pickD (fg.map .int) none (some (w : Int)) none = (fg.take w).map .int := by rw [pickD_to, List.map_take]
    have p2 : pickD (lg.map .int) none (some (w : Int)) none = (lg.take w).map .int := by rw [pickD_to, List.map_take]
    have p3 : pickD (lg.map .int) (some (w : Int)) none none = (lg.drop w).map .int := by rw [pickD_from, List.map_drop]
    have l1 : ((fg.take w).map D.int).length ≤ line24 := len_le (n := w) (by rw [List.length_take]; (first | lia | omega))
    have l2 : ((lg.take w).map D.int).length ≤ line24 := len_le (n := w) (by rw [List.length_take]; (first | lia | omega))
    have l3 : ((lg.drop w).map D.int).length ≤ line24 := len_le (n := w) (by rw [List.length_drop]; (first | lia | omega))
    conv => arg 2; whnf
    walk_at "V"
  · walk_at "A"
noncomputable def rowP (p : Int) : List Int := [p % 64, p / 64]
theorem fLA_13 (Φ : Phi) (xs ps : List Int) (R : List (List Int)) (sp to lg fi wi po bo lo up fg us sm : D) (hp : ps.length ≤ 10000) (hR : R.length ≤ 10000) :
    Run Φ noΨ fLA.scope.names (.S (stAt fLA.body 13)) (laρ xs (.cel (some sp)) (.cel (some to)) (.cel (some lg)) (.val fi) (.val wi) (.val po) (.val bo) (.val lo) (.val up) (.val fg) (.val us) .unset (.val sm) (.val (zl ps)) (.val (rowsD R)) .unset .unset .unset .unset .unset .unset)
    (laρ xs (.cel (some sp)) (.cel (some to)) (.cel (some lg)) (.val fi) (.val wi) (.val po) (.val bo) (.val lo) (.val up) (.val fg) (.val us) .unset (.val sm) (.val (zl ps)) (.val (rowsD (R ++ ps.map rowP))) .unset .unset .unset .unset .unset .unset) .next := by
  refine .asg (d := rowsD (R ++ ps.map rowP)) (Ev.bin (a := (rowsD R, true)) (b := (.lst (ps.map fun p => zl (rowP p)), true)) ?_ (ev_comp (item := .int) (g := fun p => zl (rowP p)) (by decide +kernel) ?_ fun x hx => ?_) ?_) ?_ rfl
  · conv => arg 2; whnf
    walk_at "V"
  · conv => arg 2; whnf
    walk_at "V"
  · refine ⟨[(Str.ofString "pair", .val (.int x))], by rfl, ?_⟩
    walk_at "V"
  · show seqR (R.map zl ++ ps.map fun p => zl (rowP p)) true = some (.lst ((R ++ ps.map rowP).map zl), true)
    rw [List.map_append, List.map_map]
    exact sq_ok (by rw [List.length_append, List.length_map, List.length_map]; unfold line24; (first | lia | omega)) rfl
  · walk_at "A"
theorem fLA_14 (Φ : Phi) (xs ns : List Int) (R : D) (sp to lg fi wi po bo lo up fg us sm pa : D) (hRd : Φ (Str.ofString "_law_read") [R] = some (zl ns)) :
    Run Φ noΨ fLA.scope.names (.S (stAt fLA.body 14)) (laρ xs (.cel (some sp)) (.cel (some to)) (.cel (some lg)) (.val fi) (.val wi) (.val po) (.val bo) (.val lo) (.val up) (.val fg) (.val us) .unset (.val sm) (.val pa) (.val R) .unset .unset .unset .unset .unset .unset)
    (laρ xs (.cel (some sp)) (.cel (some to)) (.cel (some lg)) (.val fi) (.val wi) (.val po) (.val bo) (.val lo) (.val up) (.val fg) (.val us) .unset (.val sm) (.val pa) (.val R) (.val (zl ns)) .unset .unset .unset .unset .unset) .next := by
  refine .asg (d := zl ns) (ev_call1 (a := R) rfl rfl (Ev.n rfl) hRd) ?_ rfl
  walk_at "A"
theorem fLA_15 (Φ : Phi) (xs : List Int) (R : List (List Int)) (sp to lg fi wi po bo lo up fg us sm pa : D) (hD : ∀ r ∈ R, Φ (Str.ofString "_digits2int") [zl r, .int 6] = some (.int (d2i 6 r))) :
    Run Φ noΨ fLA.scope.names (.S (stAt fLA.body 15)) (laρ xs (.cel (some sp)) (.cel (some to)) (.cel (some lg)) (.val fi) (.val wi) (.val po) (.val bo) (.val lo) (.val up) (.val fg) (.val us) .unset (.val sm) (.val pa) (.val (rowsD R)) (.val (zl (R.map (d2i 6)))) .unset .unset .unset .unset .unset)
    (laρ xs (.cel (some sp)) (.cel (some to)) (.cel (some lg)) (.val fi) (.val wi) (.val po) (.val bo) (.val lo) (.val up) (.val fg) (.val us) .unset (.val sm) (.val pa) (.val (rowsD R)) (.val (zl (R.map (d2i 6)))) .unset .unset .unset .unset .unset) .next := by
  have d1 : (zl (R.map (d2i 6))).dep ≤ 60 := by unfold zl; rw [dep_zl]; decide
  refine r_iff (v := false) (Ev.t_cmp (a := (zl (R.map (d2i 6)), true)) (Ev.n rfl) (Ev.k_one (b := (zl (R.map (d2i 6)), true)) rfl ?_ (q_neD d1 d1 (eqD_refl _)))) rfl .nil
  have e : zl (R.map (d2i 6)) = .lst (R.map fun r => .int (d2i 6 r)) := by unfold zl; rw [List.map_map]; rfl
  rw [e]
  refine ev_comp (item := zl) (by decide +kernel) (Ev.i_lst (Ev.n rfl)) fun x hx => ?_
  have hx := hD x hx
  refine ⟨[(Str.ofString "row", .val (zl x))], by rfl, ?_⟩
  generalize zl x = zx at *
  walk_at "V"
theorem fLA_16 (Φ : Phi) (xs : List Int) (up lo co : Int) (R nu sp to lg fi wi po bo fg us sm pa : D) (hC : Φ (Str.ofString "_law_common") [.int (absI up), .int lo] = some (.int co)) :
    Run Φ noΨ fLA.scope.names (.S (stAt fLA.body 16)) (laρ xs (.cel (some sp)) (.cel (some to)) (.cel (some lg)) (.val fi) (.val wi) (.val po) (.val bo) (.val (.int lo)) (.val (.int up)) (.val fg) (.val us) .unset (.val sm) (.val pa) (.val R) (.val nu) .unset .unset .unset .unset .unset)
    (laρ xs (.cel (some sp)) (.cel (some to)) (.cel (some lg)) (.val fi) (.val wi) (.val po) (.val bo) (.val (.int lo)) (.val (.int up)) (.val fg) (.val us) .unset (.val sm) (.val pa) (.val R) (.val nu) (.val (.int co)) .unset .unset .unset .unset) .next := by
  have m3 : builtD (Str.ofString "abs") [.int up] = some (some (.int (absI up))) := by simp [builtD, ofString_eq, absI]
  generalize absI up = au at *
  refine .asg (d := .int co) ?_ ?_ rfl
  · conv => arg 2; whnf
    walk_at "V"
  · walk_at "A"
/-! the four tests by halves of Euclid's run -/
theorem tup2_ne {a b : Int} : cmpR .NotEq (.tup [.int a, .int b], true) (.tup [.int a, .int b], true) = some (!true) := q_neD (by simp [D.dep, deps]) (by simp [D.dep, deps]) (eqD_refl _)
theorem fLA_17t (Φ : Phi) (xs ns us : List Int) (po bo lo co nk uk : Int) (k w : Nat) (up R sp to lg fi fg sm pa : D) (hco : 0 < co) (h8 : log8 co = true) (hw : log60 w = true)
    (e1 : idxD (zl ns, true) (k : Int) = some (.int nk, true)) (e2 : idxD (zl us, true) ((k : Int) * (w : Int)) = some (.int uk, true)) (hH : Φ (Str.ofString "_law_half") [.int nk, .int po, .int bo] = some (.tup [.int (uk / co), .int (lo / co)])) :
    Run Φ noΨ fLA.scope.names (.B (bodyOf (stAt fLA.body 17))) (laρ xs (.cel (some sp)) (.cel (some to)) (.cel (some lg)) (.val fi) (.val (.int w)) (.val (.int po)) (.val (.int bo)) (.val (.int lo)) (.val up) (.val fg) (.val (zl us)) (.val (.int k)) (.val sm) (.val pa) (.val R) (.val (zl ns)) (.val (.int co)) .unset .unset .unset .unset)
    (laρ xs (.cel (some sp)) (.cel (some to)) (.cel (some lg)) (.val fi) (.val (.int w)) (.val (.int po)) (.val (.int bo)) (.val (.int lo)) (.val up) (.val fg) (.val (zl us)) (.val (.int k)) (.val sm) (.val pa) (.val R) (.val (zl ns)) (.val (.int co)) .unset .unset .unset .unset) .next := by
  have m1 : mulFit (k : Int) (w : Int) = true := mulFit_r hw
  have q1 := @tup2_ne (uk / co) (lo / co)
  generalize zl ns = zn at *
  generalize zl us = zu at *
  conv => arg 3; whnf
  conv => arg 4; arg 1; whnf
  walk_at "R"
theorem fLA_17 (Φ : Phi) (xs ns us : List Int) (po bo lo co : Int) (w : Nat) (up R sp to lg fi fg sm pa : D) (hco : 0 < co) (h8 : log8 co = true) (hw : log60 w = true)
    (h : ∀ k : Nat, k < 3 → ∃ nk uk, idxD (zl ns, true) (k : Int) = some (.int nk, true) ∧ idxD (zl us, true) ((k : Int) * (w : Int)) = some (.int uk, true) ∧ Φ (Str.ofString "_law_half") [.int nk, .int po, .int bo] = some (.tup [.int (uk / co), .int (lo / co)])) :
    ∃ k, plain k ∧ Run Φ noΨ fLA.scope.names (.S (stAt fLA.body 17)) (laρ xs (.cel (some sp)) (.cel (some to)) (.cel (some lg)) (.val fi) (.val (.int w)) (.val (.int po)) (.val (.int bo)) (.val (.int lo)) (.val up) (.val fg) (.val (zl us)) .unset (.val sm) (.val pa) (.val R) (.val (zl ns)) (.val (.int co)) .unset .unset .unset .unset)
    (laρ xs (.cel (some sp)) (.cel (some to)) (.cel (some lg)) (.val fi) (.val (.int w)) (.val (.int po)) (.val (.int bo)) (.val (.int lo)) (.val up) (.val fg) (.val (zl us)) k (.val sm) (.val pa) (.val R) (.val (zl ns)) (.val (.int co)) .unset .unset .unset .unset) .next := by
  obtain ⟨ρ', run, k, h1, rfl⟩ := run_range (Φ := Φ) (Ψ := noΨ) (nm := fLA.scope.names) (tgt := forT (stAt fLA.body 17)) (body := bodyOf (stAt fLA.body 17)) (n := 3) (fun (i : Nat) => D.int i)
    (fun i ρ => ∃ k, plain k ∧ ρ = laρ xs (.cel (some sp)) (.cel (some to)) (.cel (some lg)) (.val fi) (.val (.int w)) (.val (.int po)) (.val (.int bo)) (.val (.int lo)) (.val up) (.val fg) (.val (zl us)) k (.val sm) (.val pa) (.val R) (.val (zl ns)) (.val (.int co)) .unset .unset .unset .unset) (fun i ρ hi e => by
      obtain ⟨k, hk, rfl⟩ := e
      obtain ⟨nk, uk, e1, e2, hH⟩ := h i hi
      exact ⟨_, _, by walk_at "A", fLA_17t Φ xs ns us po bo lo co nk uk i w up R sp to lg fi fg sm pa hco h8 hw e1 e2 hH, _, plain_val _, rfl⟩) (ρ := laρ xs (.cel (some sp)) (.cel (some to)) (.cel (some lg)) (.val fi) (.val (.int w)) (.val (.int po)) (.val (.int bo)) (.val (.int lo)) (.val up) (.val fg) (.val (zl us)) .unset (.val sm) (.val pa) (.val R) (.val (zl ns)) (.val (.int co)) .unset .unset .unset .unset) ⟨.unset, plain_unset, rfl⟩
  refine ⟨k, h1, .for rfl (Ev.i_rng (b := 3) (f := true) rfl ?_ (rangeD_to 3 (by decide))) run⟩
  conv => arg 2; whnf
  walk_at "V"
theorem fLA_18 (Φ : Phi) (xs ns us : List Int) (po bo lo up co n0 n1 n2 n3 n4 uw mo ov be : Int) (w : Nat) (R sp to lg fi fg sm pa : D) (k : Slot) (hk : plain k) (hco : 0 < co) (h8 : log8 co = true) (hpo : log60 po = true) (hmo : mo = if 0 < up then 1 else 0) (hlo : log60 lo = true)
    (e0 : idxD (zl ns, true) 0 = some (.int n0, true)) (e1 : idxD (zl ns, true) 1 = some (.int n1, true)) (e2 : idxD (zl ns, true) 2 = some (.int n2, true)) (e3 : idxD (zl ns, true) 3 = some (.int n3, true)) (e4 : idxD (zl ns, true) 4 = some (.int n4, true))
    (eu : idxD (zl us, true) (w : Int) = some (.int uw, true))
    (h3 : Φ (Str.ofString "_law_half") [.int n3, .int (po * po), .int bo] = some (.tup [.int (uw / co), .int (lo / co)]))
    (m1 : Φ (Str.ofString "int_divmod") [.int (lo * n0), .int (-po)] = some (.tup [.int (uw - mo), .int (up - mo * po)])) (m2 : Φ (Str.ofString "int_divmod") [.int n3, .int po] = some (.tup [.int n2, .int n1]))
    (h4 : Φ (Str.ofString "_law_half") [.int n4, .int (po * po), .int bo] = some (.tup [.int ov, .int be])) :
    Run Φ noΨ fLA.scope.names (.B ((fLA.body.drop 18).take 5)) (laρ xs (.cel (some sp)) (.cel (some to)) (.cel (some lg)) (.val fi) (.val (.int w)) (.val (.int po)) (.val (.int bo)) (.val (.int lo)) (.val (.int up)) (.val fg) (.val (zl us)) k (.val sm) (.val pa) (.val R) (.val (zl ns)) (.val (.int co)) .unset .unset .unset .unset)
    (laρ xs (.cel (some sp)) (.cel (some to)) (.cel (some lg)) (.val fi) (.val (.int w)) (.val (.int po)) (.val (.int bo)) (.val (.int lo)) (.val (.int up)) (.val fg) (.val (zl us)) k (.val sm) (.val pa) (.val R) (.val (zl ns)) (.val (.int co)) (.val (.int mo)) (.val (.int ov)) (.val (.int be)) .unset) .next := by
  have f1 : mulFit po po = true := mulFit_r hpo
  have f2 : mulFit lo n0 = true := mulFit_l hlo
  have f3 : mulFit mo po = true := mulFit_r hpo
  have q1 := @tup2_ne (uw / co) (lo / co)
  have q2 := @tup2_ne (uw - mo) (up - mo * po)
  have q3 := @tup2_ne n2 n1
  generalize zl ns = zn at *
  generalize zl us = zu at *
  conv => arg 3; whnf
  conv => arg 4; arg 1; whnf
  by_cases hu : 0 < up
  · rw [if_pos hu] at hmo
    subst hmo
    walk_at "R"
  · rw [if_neg hu] at hmo
    subst hmo
    walk_at "R"
theorem fLA_23 (Φ : Phi) (xs ns : List Int) (po bo n4 ov be : Int) (lo up co mo us w R sp to lg fi fg sm pa : D) (k : Slot) (hk : plain k) (hpo : log60 po = true) (hp0 : 0 < po * po) (hbo : log60 bo = true)
    (e4 : idxD (zl ns, true) 4 = some (.int n4, true)) (f2 : mulFit be n4 = true)
    (hv1 : (decide (be % 2 = 1) && (decide (be ≤ bo) && ((decide (-be ≤ ov) && decide (ov ≤ 0)) && true))) = false)
    (hv2 : (!(decide (0 < be * bo) && decide (be * bo < po * po)) || (!decide ((be * n4 - ov) % (po * po) = 0) || false)) = false) :
    Run Φ noΨ fLA.scope.names (.B ((fLA.body.drop 23).take 2)) (laρ xs (.cel (some sp)) (.cel (some to)) (.cel (some lg)) (.val fi) (.val w) (.val (.int po)) (.val (.int bo)) (.val lo) (.val up) (.val fg) (.val us) k (.val sm) (.val pa) (.val R) (.val (zl ns)) (.val co) (.val mo) (.val (.int ov)) (.val (.int be)) .unset)
    (laρ xs (.cel (some sp)) (.cel (some to)) (.cel (some lg)) (.val fi) (.val w) (.val (.int po)) (.val (.int bo)) (.val lo) (.val up) (.val fg) (.val us) k (.val sm) (.val pa) (.val R) (.val (zl ns)) (.val co) (.val mo) (.val (.int ov)) (.val (.int be)) .unset) .next := by
  have f1 : mulFit po po = true := mulFit_r hpo
  have f3 : mulFit be bo = true := mulFit_r hbo
  generalize zl ns = zn at *
  conv => arg 3; whnf
  conv => arg 4; arg 1; whnf
  walk_at "R"
theorem fLA_25t (Φ : Phi) (xs : List Int) (nb : Int) (nu po bo ov be lo up co mo us w R sp to lg fi fg sm pa : D) (k : Slot) (hk : plain k) (hT : Φ (Str.ofString "_law_two_figures") [.int nb] = some (.bool true)) :
    Run Φ noΨ fLA.scope.names (.B (bodyOf (stAt fLA.body 25))) (laρ xs (.cel (some sp)) (.cel (some to)) (.cel (some lg)) (.val fi) (.val w) (.val po) (.val bo) (.val lo) (.val up) (.val fg) (.val us) k (.val sm) (.val pa) (.val R) (.val nu) (.val co) (.val mo) (.val ov) (.val be) (.val (.int nb)))
    (laρ xs (.cel (some sp)) (.cel (some to)) (.cel (some lg)) (.val fi) (.val w) (.val po) (.val bo) (.val lo) (.val up) (.val fg) (.val us) k (.val sm) (.val pa) (.val R) (.val nu) (.val co) (.val mo) (.val ov) (.val be) (.val (.int nb))) .next := by
  conv => arg 3; whnf
  conv => arg 4; arg 1; whnf
  walk_at "R"
theorem fLA_25 (Φ : Phi) (xs ns : List Int) (po bo ov be lo up co mo us w R sp to lg fi fg sm pa : D) (k : Slot) (hk : plain k) (hn : ns.length ≤ 10000) (hT : ∀ n ∈ ns.drop 5, Φ (Str.ofString "_law_two_figures") [.int n] = some (.bool true)) :
    ∃ ρ', Run Φ noΨ fLA.scope.names (.B (fLA.body.drop 25)) (laρ xs (.cel (some sp)) (.cel (some to)) (.cel (some lg)) (.val fi) (.val w) (.val po) (.val bo) (.val lo) (.val up) (.val fg) (.val us) k (.val sm) (.val pa) (.val R) (.val (zl ns)) (.val co) (.val mo) (.val ov) (.val be) .unset) ρ' (.ret (.bool true)) := by
  obtain ⟨ρ', run, nb, h1, h2, rfl⟩ := run_for (Φ := Φ) (Ψ := noΨ) (nm := fLA.scope.names) (tgt := forT (stAt fLA.body 25)) (body := bodyOf (stAt fLA.body 25)) D.int
    (fun (a : Unit) bs ρ => ∃ nb, plain nb ∧ (∀ b ∈ bs, b ∈ ns.drop 5) ∧ ρ = laρ xs (.cel (some sp)) (.cel (some to)) (.cel (some lg)) (.val fi) (.val w) (.val po) (.val bo) (.val lo) (.val up) (.val fg) (.val us) k (.val sm) (.val pa) (.val R) (.val (zl ns)) (.val co) (.val mo) (.val ov) (.val be) nb) (fun a b => a) (fun a b bs ρ e => by
      obtain ⟨nb, h1, h2, rfl⟩ := e
      exact ⟨_, _, by walk_at "A", fLA_25t Φ xs b (zl ns) po bo ov be lo up co mo us w R sp to lg fi fg sm pa k hk (hT b (h2 b List.mem_cons_self)), _, plain_val _, fun y hy => h2 y (List.mem_cons_of_mem _ hy), rfl⟩)
    (ns.drop 5) () (laρ xs (.cel (some sp)) (.cel (some to)) (.cel (some lg)) (.val fi) (.val w) (.val po) (.val bo) (.val lo) (.val up) (.val fg) (.val us) k (.val sm) (.val pa) (.val R) (.val (zl ns)) (.val co) (.val mo) (.val ov) (.val be) .unset) ⟨_, plain_unset, fun _ h => h, rfl⟩
  refine ⟨_, .cons (s := stAt fLA.body 25) (.for (ds := (ns.drop 5).map .int) rfl ?_ run) (.stop (.ret Ev.b) (by intro e; cases e))⟩
  have p1 : pickD (ns.map .int) (some 5) none none = (ns.drop 5).map .int := by rw [List.map_drop]; exact pickD_from _ 5
  have l1 : ((ns.drop 5).map D.int).length ≤ line24 := len_le (n := 0) (by rw [List.length_drop]; (first | lia | omega))
  conv => arg 2; whnf
  walk_at "V"
end
section -- QH
/-! ## half of Euclid's run -/
structure HInv (N M a h d f s : Int) : Prop where
  s1 : s * s = 1
  h0 : 0 ≤ h
  ha : h < a
  det : a * f - h * d = s * M
  c1 : ∃ x, h = N * f + M * x
  c2 : ∃ y, a = N * d + M * y
  sf : 0 < s * f
  sd : s * d ≤ 0
theorem HInv.step {N M a h d f s : Int} (I : HInv N M a h d f s) (hp : 0 < h) : HInv N M h (a % h) f (d - a / h * f) (-s) := by
  obtain ⟨x, hx⟩ := I.c1
  obtain ⟨y, hy⟩ := I.c2
  have e := Int.emod_add_mul_ediv a h
  have r0 := Int.emod_nonneg a (show h ≠ 0 by (first | lia | omega))
  have r1 := Int.emod_lt_of_pos a hp
  have hq : 1 ≤ a / h := by
    have := (Int.le_ediv_iff_mul_le hp).mpr (show 1 * h ≤ a by have := I.ha; (first | lia | omega))
    exact this
  generalize a / h = q at *
  generalize a % h = r at *
  have er : r = a - h * q := by (first | lia | omega)
  refine ⟨by rw [Int.neg_mul_neg]; exact I.s1, r0, r1, ?_, ⟨y - q * x, ?_⟩, ⟨x, hx⟩, ?_, ?_⟩
  · have := I.det
    rw [er, Int.neg_mul, ← this]
    grind
  · rw [er, hy, hx]
    grind
  · have h1 := I.sf
    have h2 := I.sd
    have h3 : s * f ≤ q * (s * f) := by
      have := Int.mul_le_mul_of_nonneg_right hq (Int.le_of_lt h1)
      (first | lia | omega)
    have h4 : -s * (d - q * f) = q * (s * f) - s * d := by grind
    (first | lia | omega)
  · have h1 := I.sf
    rw [Int.neg_mul]; (first | lia | omega)
theorem hf_inv (N M B : Int) (hB : 0 ≤ B) : ∀ (n : Nat) (a h d f s : Int), HInv N M a h d f s → h.toNat ≤ n → B < a → ∃ a' d' s', HInv N M a' (hfF B n a h d f).1 d' (hfF B n a h d f).2 s' ∧ (hfF B n a h d f).1 ≤ B ∧ B < a'
  | 0, a, h, d, f, s, I, hn, ha => ⟨a, d, s, I, by have := I.h0; show h ≤ B; (first | lia | omega), ha⟩
  | n + 1, a, h, d, f, s, I, hn, ha => by
    rw [hfF]
    by_cases hc : B < h
    · rw [if_pos hc]
      have hp : 0 < h := by (first | lia | omega)
      have := Int.emod_lt_of_pos a hp
      exact hf_inv N M B hB n h (a % h) f (d - a / h * f) (-s) (I.step hp) (by (first | lia | omega)) hc
    · rw [if_neg hc]
      exact ⟨a, d, s, I, by show h ≤ B; (first | lia | omega), ha⟩
/-- what the half run tells: r, t -/
structure HalfOk (N M B r t : Int) : Prop where
  t0 : 0 < t
  tB : t * B < M
  c : ∃ x, t * N - r = M * x
  bez : ∃ a d, a * t - r * d = M
  wang : ∀ u l z, 0 < l → l ≤ B → -B ≤ u → u ≤ B → u = N * l + M * z → 2 * (B * B) < M → ∃ k, u = r * k ∧ l = t * k
theorem sq_one {s : Int} (h : s * s = 1) : s = 1 ∨ s = -1 := by
  have : (s - 1) * (s + 1) = 0 := by grind
  rcases Int.mul_eq_zero.mp this with h | h
  · exact .inl (by (first | lia | omega))
  · exact .inr (by (first | lia | omega))
theorem half_wang {N M B a h d f s u l z : Int} (I : HInv N M a h d f s) (hM : 0 < M) (hB : 0 ≤ B) (hh : h ≤ B) (ha : B < a) (l0 : 0 < l) (l1 : l ≤ B) (u0 : -B ≤ u) (u1 : u ≤ B) (hu : u = N * l + M * z) (hs : 2 * (B * B) < M) :
    ∃ k, u = s * h * k ∧ l = s * f * k := by
  obtain ⟨x, hx⟩ := I.c1
  obtain ⟨y, hy⟩ := I.c2
  have hMn : M ≠ 0 := Int.ne_of_gt hM
  have eb : u * f - l * h = M * (z * f - l * x) := by rw [hu, hx]; grind
  have ea : l * a - u * d = M * (l * y - z * d) := by rw [hu, hy]; grind
  generalize hβ : z * f - l * x = b at *
  generalize hα : l * y - z * d = k at *
  have det := I.det
  have e1 : s * u = a * b + h * k := by
    have : M * (s * u) = M * (a * b + h * k) := by
      have e : M * (a * b + h * k) = a * (M * b) + h * (M * k) := by grind
      rw [e, ← eb, ← ea]
      have e2 : M * (s * u) = s * M * u := by grind
      rw [e2, ← det]
      grind
    exact Int.eq_of_mul_eq_mul_left hMn this
  have e2 : s * l = d * b + f * k := by
    have : M * (s * l) = M * (d * b + f * k) := by
      have e : M * (d * b + f * k) = d * (M * b) + f * (M * k) := by grind
      rw [e, ← eb, ← ea]
      have e2 : M * (s * l) = s * M * l := by grind
      rw [e2, ← det]
      grind
    exact Int.eq_of_mul_eq_mul_left hMn this
  have s1 := I.s1
  have e3 : l = (s * d) * b + (s * f) * k := by
    have : s * (s * l) = s * (d * b + f * k) := by rw [e2]
    have e : s * (s * l) = l := by rw [← Int.mul_assoc, s1, Int.one_mul]
    rw [e] at this
    rw [this]; grind
  have hF := I.sf
  have hD := I.sd
  have h0 := I.h0
  have hsu : -B ≤ s * u ∧ s * u ≤ B := by
    rcases sq_one s1 with rfl | rfl
    · (first | lia | omega)
    · (first | lia | omega)
  have hb : b = 0 := by
    rcases Int.lt_trichotomy b 0 with hb | hb | hb
    · exfalso
      have k1 : 0 < k := by
        rcases Int.lt_or_le 0 k with hk | hk
        · exact hk
        · exfalso
          have a1 : a * b ≤ a * (-1) := Int.mul_le_mul_of_nonneg_left (by (first | lia | omega)) (by (first | lia | omega))
          have a2 : h * k ≤ h * 0 := Int.mul_le_mul_of_nonneg_left hk h0
          (first | lia | omega)
      have a1 : 0 ≤ (s * d) * b := Int.mul_nonneg_of_nonpos_of_nonpos hD (by (first | lia | omega))
      have a2 : (s * f) * 1 ≤ (s * f) * k := Int.mul_le_mul_of_nonneg_left (by (first | lia | omega)) (by (first | lia | omega))
      have hFB : s * f ≤ B := by (first | lia | omega)
      have a3 : s * (u * f - l * h) = u * (s * f) - l * (s * h) := by grind
      rw [eb] at a3
      have a4 : M * b ≤ M * (-1) := Int.mul_le_mul_of_nonneg_left (by (first | lia | omega)) (by (first | lia | omega))
      have a5 : u * (s * f) ≤ B * (s * f) := Int.mul_le_mul_of_nonneg_right u1 (by (first | lia | omega))
      have a6 : -B * (s * f) ≤ u * (s * f) := Int.mul_le_mul_of_nonneg_right u0 (by (first | lia | omega))
      have a7 : B * (s * f) ≤ B * B := Int.mul_le_mul_of_nonneg_left hFB hB
      have a8 : l * h ≤ B * B := Int.le_trans (Int.mul_le_mul_of_nonneg_right l1 h0) (Int.mul_le_mul_of_nonneg_left hh hB)
      have a9 : 0 ≤ l * h := Int.mul_nonneg (by (first | lia | omega)) h0
      rw [Int.neg_mul] at a6
      have b1 : l * (s * h) = s * (l * h) := by grind
      rw [b1] at a3
      generalize l * h = lh at *
      generalize M * b = mb at *
      rcases sq_one s1 with rfl | rfl <;> (first | lia | omega)
    · exact hb
    · exfalso
      rcases Int.lt_or_le k 0 with hk | hk
      · have a1 : (s * d) * b ≤ 0 := Int.mul_nonpos_of_nonpos_of_nonneg hD (by (first | lia | omega))
        have a2 : (s * f) * k ≤ (s * f) * (-1) := Int.mul_le_mul_of_nonneg_left (by (first | lia | omega)) (by (first | lia | omega))
        (first | lia | omega)
      · have a1 : a * 1 ≤ a * b := Int.mul_le_mul_of_nonneg_left (by (first | lia | omega)) (by (first | lia | omega))
        have a2 : 0 ≤ h * k := Int.mul_nonneg h0 hk
        (first | lia | omega)
  rw [hb, Int.mul_zero, Int.zero_add] at e1 e3
  refine ⟨k, ?_, e3⟩
  have : s * (s * u) = s * (h * k) := by rw [e1]
  rw [← Int.mul_assoc, s1, Int.one_mul] at this
  rw [this]; grind
theorem half_ok (N M B : Int) (hB : 0 ≤ B) (hN : 0 ≤ N) (hNM : N < M) (hBM : B < M) : HalfOk N M B (half N M B).1 (half N M B).2 := by
  have I0 : HInv N M M N 0 1 1 := ⟨rfl, hN, hNM, by (first | lia | omega), ⟨0, by (first | lia | omega)⟩, ⟨1, by (first | lia | omega)⟩, by decide, by decide⟩
  obtain ⟨a, d, s, I, hh, ha⟩ := hf_inv N M B hB N.toNat M N 0 1 1 I0 (Nat.le_refl _) hBM
  unfold half
  generalize hp : hfF B N.toNat M N 0 1 = p at *
  obtain ⟨h, f⟩ := p
  dsimp only at I hh ⊢
  have s1 := I.s1
  have e : (if f < 0 then (-h, -f) else (h, f)) = (s * h, s * f) := by
    have := I.sf
    rcases sq_one s1 with rfl | rfl
    · rw [if_neg (by (first | lia | omega)), Int.one_mul, Int.one_mul]
    · rw [if_pos (by (first | lia | omega)), Int.neg_mul, Int.neg_mul, Int.one_mul, Int.one_mul]
  rw [e]
  dsimp only
  obtain ⟨x, hx⟩ := I.c1
  have det := I.det
  have h0 := I.h0
  have bez : a * (s * f) - (s * h) * (s * (s * d)) = M := by
    have e1 : a * (s * f) - (s * h) * (s * (s * d)) = s * (a * f - (s * s) * (h * d)) := by grind
    rw [e1, s1, Int.one_mul, det, ← Int.mul_assoc, s1, Int.one_mul]
  refine ⟨I.sf, ?_, ⟨-(s * x), ?_⟩, ⟨a, s * (s * d), bez⟩, fun u l z l0 l1 u0 u1 hu hs => ?_⟩
  · have e1 : (s * h) * (s * (s * d)) = h * (s * d) := by
      have : (s * h) * (s * (s * d)) = (s * s) * (h * (s * d)) := by grind
      rw [this, s1, Int.one_mul]
    rw [e1] at bez
    have a1 : h * (s * d) ≤ 0 := Int.mul_nonpos_of_nonneg_of_nonpos h0 I.sd
    have a2 : s * f * (B + 1) ≤ s * f * a := Int.mul_le_mul_of_nonneg_left (by (first | lia | omega)) (Int.le_of_lt I.sf)
    rw [Int.mul_add, Int.mul_one, Int.mul_comm (s * f) a] at a2
    have := I.sf
    (first | lia | omega)
  · rw [hx]; grind
  · exact half_wang I (by (first | lia | omega)) hB hh ha l0 l1 u0 u1 hu hs
end
section -- QI
/-! ## odd numbers and powers of two -/
theorem two_cases (a : Int) : a % 2 = 0 ∨ a % 2 = 1 := by (first | lia | omega)
theorem odd_of_dvd {g l : Int} (h : g ∣ l) (hl : l % 2 = 1) : g % 2 = 1 := by
  obtain ⟨c, rfl⟩ := h
  rcases two_cases g with e | e
  · have hg : g = 2 * (g / 2) := by (first | lia | omega)
    rw [hg, Int.mul_assoc] at hl
    (first | lia | omega)
  · exact e
theorem odd_mul {a b : Int} (ha : a % 2 = 1) (hb : b % 2 = 1) : a * b % 2 = 1 := by
  rw [Int.mul_emod, ha, hb]; rfl
theorem even_of_odd_mul {a b : Int} (ha : a % 2 = 1) (h : a * b % 2 = 0) : b % 2 = 0 := by
  rcases two_cases b with e | e
  · exact e
  · have := odd_mul ha e
    (first | lia | omega)
theorem odd_dvd_pow {g : Int} (hg : g % 2 = 1) : ∀ (k : Nat) {x : Int}, g ∣ 2 ^ k * x → g ∣ x
  | 0, x, h => by simpa using h
  | k + 1, x, h => by
    refine odd_dvd_pow hg k ?_
    obtain ⟨c, hc⟩ := h
    have e : 2 * (2 ^ k * x) = g * c := by rw [← hc, Int.pow_succ]; grind
    have h2 := even_of_odd_mul (b := c) hg (by rw [← e]; (first | lia | omega))
    refine ⟨c / 2, ?_⟩
    have e2 : g * c = 2 * (g * (c / 2)) := by
      have : c = 2 * (c / 2) := by (first | lia | omega)
      conv => lhs; rw [this]
      grind
    (first | lia | omega)
theorem pow_dvd_odd {l : Int} (hl : l % 2 = 1) : ∀ (e : Nat) {y : Int}, (2 : Int) ^ e ∣ l * y → (2 : Int) ^ e ∣ y
  | 0, y, _ => by simp
  | e + 1, y, h => by
    obtain ⟨c, hc⟩ := h
    rw [Int.pow_succ] at hc
    have h2 : y % 2 = 0 := even_of_odd_mul hl (by rw [hc, Int.mul_assoc, Int.mul_left_comm]; (first | lia | omega))
    have hy : y = 2 * (y / 2) := by (first | lia | omega)
    obtain ⟨c2, hc2⟩ := pow_dvd_odd hl e (y := y / 2) ⟨c, by
      have : 2 * (l * (y / 2)) = 2 * (2 ^ e * c) := by
        have e1 : 2 * (l * (y / 2)) = l * (2 * (y / 2)) := by grind
        rw [e1, ← hy, hc]; grind
      (first | lia | omega)⟩
    refine ⟨c2, ?_⟩
    rw [hy, hc2, Int.pow_succ]; grind
theorem half_terms {N M B r t : Int} (H : HalfOk N M B r t) (e : Nat) (hM : M = 2 ^ e) (ht : t % 2 = 1) : Int.gcd r t = 1 := by
  obtain ⟨a, d, hb⟩ := H.bez
  have h1 := Int.gcd_dvd_left r t
  have h2 := Int.gcd_dvd_right r t
  have h3 : (Int.gcd r t : Int) ∣ 2 ^ e * 1 := by
    rw [Int.mul_one, ← hM, ← hb]
    exact Int.dvd_sub (Int.dvd_mul_of_dvd_right h2) (Int.dvd_mul_of_dvd_left h1)
  have h4 := odd_dvd_pow (odd_of_dvd h2 ht) e h3
  exact Nat.dvd_one.mp (Int.natCast_dvd_natCast.mp h4)
/-- a window tells its fraction -/
theorem half_is {N M B u l z : Int} (e : Nat) (hM : M = 2 ^ e) (hB : 0 ≤ B) (hN : 0 ≤ N) (hNM : N < M) (hs : 2 * (B * B) < M) (hBM : B < M) (l0 : 0 < l) (l1 : l ≤ B) (u0 : -B ≤ u) (u1 : u ≤ B) (hu : u = N * l + M * z) (ho : l % 2 = 1) :
    half N M B = (u / (Int.gcd u l : Int), l / (Int.gcd u l : Int)) := by
  have H := half_ok N M B hB hN hNM hBM
  obtain ⟨k, e1, e2⟩ := H.wang u l z l0 l1 u0 u1 hu hs
  have t0 := H.t0
  have ht := half_terms H e hM (odd_of_dvd ⟨k, e2⟩ ho)
  generalize hp : half N M B = p at *
  obtain ⟨r, t⟩ := p
  dsimp only at e1 e2 t0 ht
  have k0 : 0 < k := by
    rcases Int.lt_or_le 0 k with h | h
    · exact h
    · have := Int.mul_nonpos_of_nonneg_of_nonpos (Int.le_of_lt t0) h
      (first | lia | omega)
  have hg : (Int.gcd u l : Int) = k := by
    rw [e1, e2, Int.gcd_mul_right, ht, Nat.one_mul]
    exact Int.natAbs_of_nonneg (Int.le_of_lt k0)
  rw [hg, e1, e2, Int.mul_ediv_cancel _ (Int.ne_of_gt k0), Int.mul_ediv_cancel _ (Int.ne_of_gt k0)]

/-! ## the stream of figures -/
theorem inv64 : ∀ x : Fin 64, x.val % 2 = 1 → (x.val ^ 15 * x.val) % 64 = 1 := by decide
theorem fig_div (u l : Int) (hl : l % 2 = 1) : ∃ v, u = figF u l * l + 64 * v := by
  have hx : ((l % 64) ^ 15 * (l % 64)) % 64 = 1 := by
    have h0 := Int.emod_nonneg l (show (64 : Int) ≠ 0 by decide)
    have h1 := Int.emod_lt_of_pos l (show (0 : Int) < 64 by decide)
    obtain ⟨n, hn⟩ := Int.eq_ofNat_of_zero_le h0
    have h2 : n < 64 := by (first | lia | omega)
    have h3 := inv64 ⟨n, h2⟩ (by show n % 2 = 1; (first | lia | omega))
    rw [hn]
    exact_mod_cast h3
  unfold figF
  generalize hxx : l % 64 = x at *
  have e1 := Int.emod_add_mul_ediv (u * x ^ 15) 64
  have e2 := Int.emod_add_mul_ediv l 64
  have e3 := Int.emod_add_mul_ediv (x ^ 15 * x) 64
  rw [hx] at e3
  rw [hxx] at e2
  generalize u * x ^ 15 % 64 = f at *
  generalize hq1 : u * x ^ 15 / 64 = q1 at *
  generalize l / 64 = q2 at *
  generalize x ^ 15 * x / 64 = q3 at *
  generalize x ^ 15 = y at *
  refine ⟨q1 * l - u * q3 - u * y * q2, ?_⟩
  have ef : f = u * y - 64 * q1 := by (first | lia | omega)
  have el : l = x + 64 * q2 := by (first | lia | omega)
  rw [ef]
  have e4 : u * y * l = u * (y * x) + 64 * (u * y * q2) := by rw [el]; grind
  have e5 : u * (y * x) = u + 64 * (u * q3) := by rw [← e3]; grind
  have e6 : (u * y - 64 * q1) * l = u * y * l - 64 * (q1 * l) := by grind
  (first | lia | omega)
noncomputable def uN (u l : Int) : Int := (u - figF u l * l) / 64
theorem uN_eq (u l : Int) (hl : l % 2 = 1) : u = figF u l * l + 64 * uN u l := by
  obtain ⟨v, hv⟩ := fig_div u l hl
  unfold uN
  generalize figF u l * l = fl at *
  (first | lia | omega)
theorem fig_rng (u l : Int) : 0 ≤ figF u l ∧ figF u l < 64 := ⟨Int.emod_nonneg _ (by decide), Int.emod_lt_of_pos _ (by decide)⟩
noncomputable def uF (l : Int) : Nat → Int → Int
  | 0, u => u
  | k + 1, u => uF l k (uN u l)
theorem fgs_add (l : Int) : ∀ (a b : Nat) (u : Int), fgs l (a + b) u = fgs l a u ++ fgs l b (uF l a u)
  | 0, b, u => by simp [fgs, uF]
  | a + 1, b, u => by
    rw [show a + 1 + b = (a + b) + 1 by (first | lia | omega), fgs, fgs, List.cons_append]
    congr 1
    exact fgs_add l a b _
theorem uF_add (l : Int) : ∀ (a b : Nat) (u : Int), uF l (a + b) u = uF l b (uF l a u)
  | 0, b, u => by simp [uF]
  | a + 1, b, u => by
    rw [show a + 1 + b = (a + b) + 1 by (first | lia | omega), uF, uF, uF_add l a b]
theorem ups_get (l : Int) : ∀ (n i : Nat) (u : Int), i ≤ n → (ups l n u)[i]? = some (uF l i u)
  | 0, i, u, h => by
    have : i = 0 := by (first | lia | omega)
    subst this; rfl
  | n + 1, 0, u, h => rfl
  | n + 1, i + 1, u, h => by
    rw [ups, List.getElem?_cons_succ]
    exact ups_get l n i _ (by (first | lia | omega))
theorem fgs_mem (l : Int) : ∀ (k : Nat) (u : Int), ∀ x ∈ fgs l k u, 0 ≤ x ∧ x < 64
  | 0, u, x, h => by cases h
  | k + 1, u, x, h => by
    rcases List.mem_cons.mp h with rfl | h
    · exact fig_rng u l
    · exact fgs_mem l k _ x h
theorem ups_mem (l : Int) : ∀ (n : Nat) (u : Int), ∀ y ∈ ups l n u, ∃ i, y = uF l i u
  | 0, u, y, h => ⟨0, by simpa [ups, uF] using h⟩
  | n + 1, u, y, h => by
    rcases List.mem_cons.mp h with rfl | h
    · exact ⟨0, rfl⟩
    · obtain ⟨i, hi⟩ := ups_mem l n _ y h
      exact ⟨i + 1, hi⟩
theorem stream_sum (l : Int) (hl : l % 2 = 1) : ∀ (k : Nat) (u : Int), u = d2i 6 (fgs l k u) * l + 2 ^ (6 * k) * uF l k u
  | 0, u => by simp [fgs, d2i, uF]
  | k + 1, u => by
    have h := uN_eq u l hl
    have ih := stream_sum l hl k (uN u l)
    rw [fgs, d2i, uF]
    show u = (figF u l + 2 ^ 6 * d2i 6 (fgs l k (uN u l))) * l + 2 ^ (6 * (k + 1)) * uF l k (uN u l)
    rw [Nat.mul_add, Nat.mul_one, Int.pow_add]
    generalize d2i 6 (fgs l k (uN u l)) = S at *
    generalize uF l k (uN u l) = V at *
    generalize (2 : Int) ^ (6 * k) = P at *
    have e6 : (2 : Int) ^ 6 = 64 := rfl
    rw [e6]
    have e1 : (figF u l + 64 * S) * l + P * 64 * V = figF u l * l + 64 * (S * l + P * V) := by grind
    rw [e1, ← ih]
    exact h
theorem uF_bd (l B : Int) (hl : l % 2 = 1) (l0 : 0 < l) (l1 : l ≤ B) : ∀ (k : Nat) (u : Int), -B ≤ u → u ≤ B → -B ≤ uF l k u ∧ uF l k u ≤ B
  | 0, u, h0, h1 => ⟨h0, h1⟩
  | k + 1, u, h0, h1 => by
    have h := uN_eq u l hl
    obtain ⟨f0, f1⟩ := fig_rng u l
    have h2 : figF u l * l ≤ 63 * l := Int.mul_le_mul_of_nonneg_right (by (first | lia | omega)) (by (first | lia | omega))
    have h3 : 0 ≤ figF u l * l := Int.mul_nonneg f0 (by (first | lia | omega))
    exact uF_bd l B hl l0 l1 k (uN u l) (by (first | lia | omega)) (by (first | lia | omega))
theorem d2i6_lt {xs : List Int} (h : ∀ x ∈ xs, 0 ≤ x ∧ x < 64) : 0 ≤ d2i 6 xs ∧ d2i 6 xs < 2 ^ (6 * xs.length) := d2i_lt 6 xs h
theorem uF_neg (l B : Int) (hl : l % 2 = 1) (l0 : 0 < l) (l1 : l ≤ B) (k : Nat) (u : Int) (h0 : -B ≤ u) (h1 : u ≤ B) (hk : B < 2 ^ (6 * k)) : -l ≤ uF l k u ∧ uF l k u ≤ 0 := by
  have hs := stream_sum l hl k u
  have hd := d2i6_lt (fgs_mem l k u)
  rw [fgs_len] at hd
  generalize d2i 6 (fgs l k u) = S at *
  generalize uF l k u = V at *
  generalize (2 : Int) ^ (6 * k) = P at *
  obtain ⟨d0, d1⟩ := hd
  have h2 : 0 ≤ S * l := Int.mul_nonneg d0 (by (first | lia | omega))
  have h3 : (S + 1) * l ≤ P * l := Int.mul_le_mul_of_nonneg_right (by (first | lia | omega)) (by (first | lia | omega))
  rw [Int.add_mul, Int.one_mul] at h3
  refine ⟨?_, ?_⟩
  · rcases Int.lt_or_le V (-l) with h | h
    · have h4 : P * V ≤ P * (-l - 1) := Int.mul_le_mul_of_nonneg_left (by (first | lia | omega)) (by (first | lia | omega))
      have e : P * (-l - 1) = -(P * l) - P := by grind
      (first | lia | omega)
    · exact h
  · rcases Int.lt_or_le 0 V with h | h
    · have h4 : P * 1 ≤ P * V := Int.mul_le_mul_of_nonneg_left (by (first | lia | omega)) (by (first | lia | omega))
      (first | lia | omega)
    · exact h
theorem gcd_step (u l : Int) (hl : l % 2 = 1) : Int.gcd (uN u l) l = Int.gcd u l := by
  have h := uN_eq u l hl
  refine Nat.dvd_antisymm ?_ ?_
  · refine Int.natCast_dvd_natCast.mp (Int.dvd_coe_gcd ?_ (Int.gcd_dvd_right ..))
    rw [h]
    refine Int.dvd_add (Int.dvd_mul_of_dvd_right ?_) (Int.dvd_mul_of_dvd_right ?_)
    · rw [← h]; exact Int.gcd_dvd_right ..
    · rw [← h]; exact Int.gcd_dvd_left ..
  · refine Int.natCast_dvd_natCast.mp (Int.dvd_coe_gcd ?_ (Int.gcd_dvd_right ..))
    refine odd_dvd_pow (odd_of_dvd (Int.gcd_dvd_right ..) hl) 6 ?_
    have e : (2 : Int) ^ 6 * uN u l = u - figF u l * l := by
      have e6 : (2 : Int) ^ 6 = 64 := rfl
      rw [e6]; (first | lia | omega)
    rw [e]
    exact Int.dvd_sub (Int.gcd_dvd_left ..) (Int.dvd_mul_of_dvd_right (Int.gcd_dvd_right ..))
theorem gcd_uF (l : Int) (hl : l % 2 = 1) : ∀ (k : Nat) (u : Int), Int.gcd (uF l k u) l = Int.gcd u l
  | 0, u => rfl
  | k + 1, u => by rw [uF, gcd_uF l hl k, gcd_step u l hl]
end
section -- QJ
/-! ## one octet smudged -/
theorem dvd_small {M y : Int} (h : M ∣ y) (h0 : 0 ≤ y) (h1 : y < M) : y = 0 := by
  rcases Int.lt_or_eq_of_le h0 with h2 | h2
  · have := Int.le_of_dvd h2 h
    (first | lia | omega)
  · exact h2.symm
theorem smudge {w sp : Nat} {l be L N δ U W V ov : Int} (hsp : sp < 2 * w) (hlo : l % 2 = 1) (hbo : be % 2 = 1) (l0 : 0 < l) (b0 : 0 < be) (hlb : l * be < 2 ^ (6 * w)) (L0 : 0 ≤ L) (L1 : L < 2 ^ (6 * (2 * w))) (N0 : 0 ≤ N) (N1 : N < 2 ^ (6 * (2 * w)))
    (hN : N = L + δ * 2 ^ (6 * sp)) (d0 : δ ≠ 0) (d1 : -64 < δ) (d2 : δ < 64) (hU : U = l * L + 2 ^ (6 * (2 * w)) * W) (U0 : -l ≤ U) (U1 : U ≤ 0) (hV : ov = be * N + 2 ^ (6 * (2 * w)) * V) (v0 : -be ≤ ov) (v1 : ov ≤ 0) : False := by
  have lb0 : 0 < l * be := Int.mul_pos l0 b0
  have hX : l * ov - be * U = 2 ^ (6 * sp) * (l * be * δ + 64 * (2 ^ (6 * (2 * w - sp - 1)) * (l * V - be * W))) := by
    have eM : (2 : Int) ^ (6 * (2 * w)) = 2 ^ (6 * sp) * (64 * 2 ^ (6 * (2 * w - sp - 1))) := by
      have e6 : (64 : Int) = 2 ^ 6 := rfl
      rw [e6, ← Int.pow_add, ← Int.pow_add]
      congr 1
      (first | lia | omega)
    rw [hV, hU, hN, eM]
    generalize (2 : Int) ^ (6 * (2 * w - sp - 1)) = R
    generalize (2 : Int) ^ (6 * sp) = P
    grind
  have hX2 : l * ov - be * U = l * be * δ * 2 ^ (6 * sp) + 2 ^ (6 * (2 * w)) * (l * V - be * W) := by
    rw [hV, hU, hN]
    generalize (2 : Int) ^ (6 * (2 * w)) = M
    generalize (2 : Int) ^ (6 * sp) = P
    grind
  have x1 : l * ov ≤ 0 := Int.mul_nonpos_of_nonneg_of_nonpos (by (first | lia | omega)) v1
  have x2 : l * (-be) ≤ l * ov := Int.mul_le_mul_of_nonneg_left v0 (by (first | lia | omega))
  have x3 : be * U ≤ 0 := Int.mul_nonpos_of_nonneg_of_nonpos (by (first | lia | omega)) U1
  have x4 : be * (-l) ≤ be * U := Int.mul_le_mul_of_nonneg_left U0 (by (first | lia | omega))
  rw [Int.mul_neg] at x2 x4
  rw [Int.mul_comm be l] at x4
  have hX0 : l * be * δ + 64 * (2 ^ (6 * (2 * w - sp - 1)) * (l * V - be * W)) ≠ 0 := by
    intro h
    have hd : (2 : Int) ^ 6 ∣ (l * be) * δ := ⟨-(2 ^ (6 * (2 * w - sp - 1)) * (l * V - be * W)), by
      have e6 : (2 : Int) ^ 6 = 64 := rfl
      rw [e6]
      generalize 2 ^ (6 * (2 * w - sp - 1)) * (l * V - be * W) = q at *
      (first | lia | omega)⟩
    obtain ⟨c, hc⟩ := pow_dvd_odd (odd_mul hlo hbo) 6 hd
    have e6 : (2 : Int) ^ 6 = 64 := rfl
    rw [e6] at hc
    (first | lia | omega)
  generalize l * be * δ + 64 * (2 ^ (6 * (2 * w - sp - 1)) * (l * V - be * W)) = X' at *
  have p0 : (0 : Int) < 2 ^ (6 * sp) := pow_pos' _
  have hP : (2 : Int) ^ (6 * sp) ≤ l * be := by
    rcases Int.lt_or_gt_of_ne hX0 with h | h
    · have := Int.mul_le_mul_of_nonneg_left (show X' ≤ -1 by (first | lia | omega)) (Int.le_of_lt p0)
      (first | lia | omega)
    · have := Int.mul_le_mul_of_nonneg_left (show 1 ≤ X' by (first | lia | omega)) (Int.le_of_lt p0)
      (first | lia | omega)
  have hlt : 6 * sp < 6 * w := by
    rcases Nat.lt_or_ge (6 * sp) (6 * w) with h | h
    · exact h
    · have := pow2_le h
      (first | lia | omega)
  have h64 : 64 * (2 : Int) ^ (6 * sp) ≤ 2 ^ (6 * w) := by
    have e : 64 * (2 : Int) ^ (6 * sp) = 2 ^ (6 * sp + 6) := by rw [Int.pow_add, Int.mul_comm]; rfl
    rw [e]
    exact pow2_le (by (first | lia | omega))
  have eM : (2 : Int) ^ (6 * (2 * w)) = 2 ^ (6 * w) * 2 ^ (6 * w) := by rw [← Int.pow_add]; congr 1; (first | lia | omega)
  generalize hM : (2 : Int) ^ (6 * (2 * w)) = M at *
  generalize hPP : (2 : Int) ^ (6 * sp) = P at *
  generalize (2 : Int) ^ (6 * w) = Q at *
  generalize hlbv : l * be = lb at *
  have y1 : lb * P * δ ≤ lb * P * 63 := Int.mul_le_mul_of_nonneg_left (by (first | lia | omega)) (Int.mul_nonneg (by (first | lia | omega)) (by (first | lia | omega)))
  have y2 : lb * P * (-63) ≤ lb * P * δ := Int.mul_le_mul_of_nonneg_left (by (first | lia | omega)) (Int.mul_nonneg (by (first | lia | omega)) (by (first | lia | omega)))
  have y3 : lb * 1 ≤ lb * P := Int.mul_le_mul_of_nonneg_left (by (first | lia | omega)) (by (first | lia | omega))
  have y4 : lb * (64 * P) ≤ lb * Q := Int.mul_le_mul_of_nonneg_left h64 (by (first | lia | omega))
  have y5 : (lb + 1) * Q ≤ Q * Q := Int.mul_le_mul_of_nonneg_right (by (first | lia | omega)) (by (first | lia | omega))
  rw [Int.add_mul, Int.one_mul] at y5
  have y6 : lb * (64 * P) = 64 * (lb * P) := Int.mul_left_comm ..
  have y7 : lb * δ * P = lb * P * δ := by grind
  rw [y7] at hX2
  generalize hYY : l * V - be * W = Y at *
  have hY : Y = 0 := by
    rcases Int.lt_trichotomy Y 0 with h | h | h
    · have := Int.mul_le_mul_of_nonneg_left (show Y ≤ -1 by (first | lia | omega)) (show 0 ≤ M by (first | lia | omega))
      (first | lia | omega)
    · exact h
    · have := Int.mul_le_mul_of_nonneg_left (show 1 ≤ Y by (first | lia | omega)) (show 0 ≤ M by (first | lia | omega))
      (first | lia | omega)
  rw [hY, Int.mul_zero, Int.add_zero] at hX2
  have dP : δ * P = 1 ∨ δ * P = -1 := by
    have e : lb * P * δ = lb * (δ * P) := by grind
    rw [e] at hX2
    have hne : δ * P ≠ 0 := Int.mul_ne_zero d0 (by (first | lia | omega))
    generalize δ * P = z at *
    have z1 : z ≤ 1 := by
      rcases Int.lt_or_le 1 z with h | h
      · have := Int.mul_le_mul_of_nonneg_left (show 2 ≤ z by (first | lia | omega)) (show 0 ≤ lb by (first | lia | omega))
        (first | lia | omega)
      · exact h
    have z2 : -1 ≤ z := by
      rcases Int.lt_or_le z (-1) with h | h
      · have := Int.mul_le_mul_of_nonneg_left (show z ≤ -2 by (first | lia | omega)) (show 0 ≤ lb by (first | lia | omega))
        (first | lia | omega)
      · exact h
    (first | lia | omega)
  have e : lb * P * δ = lb * (δ * P) := by grind
  rw [e] at hX2
  rcases dP with h | h
  · rw [h] at hX2 hN
    have hbU : be * U = be * (-l) := by rw [Int.mul_neg, Int.mul_comm be l, hlbv]; (first | lia | omega)
    have hUl : U = -l := Int.eq_of_mul_eq_mul_left (by (first | lia | omega)) hbU
    have hd : M ∣ l * (L + 1) := ⟨-W, by
      have : l * (L + 1) = l * L + l := by grind
      rw [this, Int.mul_neg]; (first | lia | omega)⟩
    rw [← hM] at hd
    have := dvd_small (hM ▸ pow_dvd_odd hlo _ hd) (by (first | lia | omega)) (by (first | lia | omega))
    (first | lia | omega)
  · rw [h] at hX2 hN
    have hbU : be * U = be * 0 := by (first | lia | omega)
    have hUl : U = 0 := Int.eq_of_mul_eq_mul_left (by (first | lia | omega)) hbU
    have hd : M ∣ l * L := ⟨-W, by rw [Int.mul_neg]; (first | lia | omega)⟩
    rw [← hM] at hd
    have := dvd_small (hM ▸ pow_dvd_odd hlo _ hd) (by (first | lia | omega)) (by (first | lia | omega))
    (first | lia | omega)
theorem d2i_set (n : Nat) : ∀ (l : List Int) (i : Nat) (y : Int) (h : i < l.length), d2i n (l.set i y) = d2i n l + (y - l[i]) * 2 ^ (n * i)
  | x :: r, 0, y, h => by simp [d2i]; (first | lia | omega)
  | x :: r, i + 1, y, h => by
    have h' : i < r.length := by simpa using h
    have := d2i_set n r i y h'
    simp only [List.set_cons_succ, d2i, this, List.getElem_cons_succ, Nat.mul_add, Nat.mul_one, Int.pow_add]
    generalize (2 : Int) ^ n = a
    generalize (2 : Int) ^ (n * i) = b
    grind
theorem smF_set (lg : List Int) (to : Int) (sp : Nat) (hx : ∀ x ∈ lg, 0 ≤ x ∧ x < 64) (h : sp < lg.length) : smF lg to sp lg.length = lg.set sp ((lg[sp] + (1 + to / 7 % 63)) % 64) := by
  unfold smF
  apply List.ext_getElem
  · simp
  · intro i h1 h2
    have hi : i < lg.length := by simpa using h2
    rw [List.getElem_map, List.getElem_range, List.getElem_set]
    have e : lg.getD i 0 = lg[i] := by simp [List.getD, hi]
    rw [e]
    have hm := hx _ (List.getElem_mem hi)
    by_cases hc : sp = i
    · subst hc
      rw [if_pos rfl, if_pos rfl]
    · rw [if_neg hc, if_neg (by (first | lia | omega))]
      (first | lia | omega)
theorem smF_d2i (lg : List Int) (to : Int) (sp : Nat) (hx : ∀ x ∈ lg, 0 ≤ x ∧ x < 64) (h : sp < lg.length) : ∃ δ, d2i 6 (smF lg to sp lg.length) = d2i 6 lg + δ * 2 ^ (6 * sp) ∧ δ ≠ 0 ∧ -64 < δ ∧ δ < 64 := by
  rw [smF_set lg to sp hx h, d2i_set 6 lg sp _ h]
  have hm := hx _ (List.getElem_mem h)
  exact ⟨_, rfl, by (first | lia | omega), by (first | lia | omega), by (first | lia | omega)⟩
theorem smF_mem (lg : List Int) (to sp : Int) (n : Nat) : ∀ x ∈ smF lg to sp n, 0 ≤ x ∧ x < 64 := by
  intro x hx
  obtain ⟨k, _, rfl⟩ := List.mem_map.mp hx
  exact ⟨Int.emod_nonneg _ (by decide), Int.emod_lt_of_pos _ (by decide)⟩

/-! ## two figures -/
theorem sorted_ext : ∀ (a b : List Int), a.Pairwise (· < ·) → b.Pairwise (· < ·) → (∀ x, x ∈ a ↔ x ∈ b) → a = b
  | [], [], _, _, _ => rfl
  | [], y :: b, _, _, h => by have := (h y).mpr List.mem_cons_self; cases this
  | x :: a, [], _, _, h => by have := (h x).mp List.mem_cons_self; cases this
  | x :: a, y :: b, ha, hb, h => by
    rw [List.pairwise_cons] at ha hb
    have e : x = y := by
      rcases List.mem_cons.mp ((h x).mp List.mem_cons_self) with e | e
      · exact e
      · rcases List.mem_cons.mp ((h y).mpr List.mem_cons_self) with e2 | e2
        · exact e2.symm
        · have h1 := hb.1 _ e
          have h2 := ha.1 _ e2
          (first | lia | omega)
    subst e
    rw [sorted_ext a b ha.2 hb.2 fun z => ⟨fun hz => ?_, fun hz => ?_⟩]
    · rcases List.mem_cons.mp ((h z).mp (List.mem_cons_of_mem _ hz)) with e | e
      · have := ha.1 _ hz
        (first | lia | omega)
      · exact e
    · rcases List.mem_cons.mp ((h z).mpr (List.mem_cons_of_mem _ hz)) with e | e
      · have := hb.1 _ hz
        (first | lia | omega)
      · exact e
theorem odds_mem (l : Int) : l ∈ odds ↔ 1 ≤ l ∧ l ≤ 39 ∧ l % 2 = 1 := by
  unfold odds
  rw [List.mem_map]
  constructor
  · rintro ⟨i, hi, rfl⟩
    have := List.mem_range.mp hi
    (first | lia | omega)
  · rintro ⟨h1, h2, h3⟩
    exact ⟨((l - 1) / 2).toNat, List.mem_range.mpr (by (first | lia | omega)), by (first | lia | omega)⟩
theorem odds_sorted : odds.Pairwise (· < ·) := by decide
theorem duF_eq (n : Int) : duF n = (odds.filter fun l => decide (upF n l ≤ 40)).map fun l => (upF n l, l) := by
  have : ∀ (ls : List Int) (a : List (Int × Int)), ls.foldl (duS n) a = a ++ (ls.filter fun l => decide (upF n l ≤ 40)).map fun l => (upF n l, l) := by
    intro ls
    induction ls with
    | nil => simp
    | cons x r ih =>
      intro a
      rw [List.foldl_cons, ih]
      unfold duS
      by_cases hc : upF n x ≤ 40
      · rw [if_pos hc, List.filter_cons_of_pos (by simpa using hc)]
        simp
      · rw [if_neg hc, List.filter_cons_of_neg (by simpa using hc)]
  exact (this odds []).trans (List.nil_append _)
theorem two_ok (n : Int) (h0 : 0 ≤ n) (h1 : n < 4096) : if (half n 4096 40).2 % 2 = 0 then duF n = [] else duF n = (odds.filter (twT (half n 4096 40).1 (half n 4096 40).2)).map fun k => (k * (half n 4096 40).1, k * (half n 4096 40).2) := by
  have H := half_ok n 4096 40 (by decide) h0 h1 (by decide)
  generalize half n 4096 40 = p at *
  obtain ⟨ov, be⟩ := p
  dsimp only at H ⊢
  have t0 := H.t0
  rw [duF_eq]
  have hw : ∀ l, l ∈ odds → upF n l ≤ 40 → ∃ k, upF n l = ov * k ∧ l = be * k := fun l hl hu => by
    rw [odds_mem] at hl
    refine H.wang (upF n l) l (-((n * l + 40) / 4096)) (by (first | lia | omega)) (by (first | lia | omega)) ?_ hu ?_ (by decide)
    · unfold upF
      have := Int.emod_nonneg (n * l + 40) (show (4096 : Int) ≠ 0 by decide)
      (first | lia | omega)
    · unfold upF
      generalize n * l = nl
      (first | lia | omega)
  by_cases hb : be % 2 = 0
  · rw [if_pos hb, List.map_eq_nil_iff, List.filter_eq_nil_iff]
    intro l hl hu
    obtain ⟨k, _, e⟩ := hw l hl (of_decide_eq_true hu)
    rw [odds_mem] at hl
    have : be = 2 * (be / 2) := by (first | lia | omega)
    rw [this, Int.mul_assoc] at e
    (first | lia | omega)
  · rw [if_neg hb]
    have hb1 : be % 2 = 1 := by (first | lia | omega)
    have hT := half_terms H 12 rfl hb1
    obtain ⟨x, hx⟩ := H.c
    have hbk : ∀ k, twT ov be k = true ↔ (k * be ≤ 40 ∧ absI (k * ov) ≤ 40) := fun k => by
      unfold twT
      simp
    have hup : ∀ k, absI (k * ov) ≤ 40 → upF n (k * be) = k * ov := fun k hk => by
      have e : n * (k * be) = k * ov + 4096 * (k * x) := by
        have : n * (k * be) = k * (be * n) := by grind
        rw [this, show be * n = ov + 4096 * x by (first | lia | omega)]; grind
      unfold upF
      rw [e]
      unfold absI at hk
      generalize k * ov = z at *
      generalize k * x = q at *
      split at hk <;> (first | lia | omega)
    have e1 : (odds.filter fun l => decide (upF n l ≤ 40)) = (odds.filter (twT ov be)).map (· * be) := by
      refine sorted_ext _ _ (odds_sorted.filter _) ?_ fun l => ⟨fun hl => ?_, fun hl => ?_⟩
      · rw [List.pairwise_map]
        exact (odds_sorted.filter _).imp fun h => Int.mul_lt_mul_of_pos_right h t0
      · obtain ⟨h2, h3⟩ := List.mem_filter.mp hl
        have h3 := of_decide_eq_true h3
        obtain ⟨k, e2, e3⟩ := hw l h2 h3
        rw [odds_mem] at h2
        have k0 : 0 < k := by
          rcases Int.lt_or_le 0 k with h | h
          · exact h
          · have := Int.mul_nonpos_of_nonneg_of_nonpos (Int.le_of_lt t0) h
            (first | lia | omega)
        have kb : k * 1 ≤ k * be := Int.mul_le_mul_of_nonneg_left (by (first | lia | omega)) (by (first | lia | omega))
        rw [Int.mul_comm be k] at e3
        have ko : k % 2 = 1 := by
          rcases two_cases k with h | h
          · have : k = 2 * (k / 2) := by (first | lia | omega)
            rw [this, Int.mul_assoc] at e3
            (first | lia | omega)
          · exact h
        refine List.mem_map.mpr ⟨k, List.mem_filter.mpr ⟨(odds_mem k).mpr ⟨by (first | lia | omega), by (first | lia | omega), ko⟩, (hbk k).mpr ⟨by (first | lia | omega), ?_⟩⟩, e3.symm⟩
        rw [Int.mul_comm k ov, ← e2]
        have : -40 ≤ upF n l := by
          unfold upF
          have := Int.emod_nonneg (n * l + 40) (show (4096 : Int) ≠ 0 by decide)
          (first | lia | omega)
        unfold absI
        split <;> (first | lia | omega)
      · obtain ⟨k, hk, rfl⟩ := List.mem_map.mp hl
        obtain ⟨h2, h3⟩ := List.mem_filter.mp hk
        obtain ⟨h4, h5⟩ := (hbk k).mp h3
        rw [odds_mem] at h2
        have kb : 1 * be ≤ k * be := Int.mul_le_mul_of_nonneg_right (by (first | lia | omega)) (by (first | lia | omega))
        have ko := odd_mul h2.2.2 hb1
        refine List.mem_filter.mpr ⟨(odds_mem _).mpr ⟨by (first | lia | omega), by (first | lia | omega), ko⟩, decide_eq_true ?_⟩
        rw [hup k h5]
        unfold absI at h5
        split at h5 <;> (first | lia | omega)
    rw [e1, List.map_map]
    apply List.map_congr_left
    intro k hk
    obtain ⟨h2, h3⟩ := List.mem_filter.mp hk
    show (upF n (k * be), k * be) = _
    rw [hup k ((hbk k).mp h3).2]
end
section -- QK
/-! ## the contracts -/
noncomputable abbrev StA := Int × Int × Nat
noncomputable def stE (x : StA) : List D := [.int x.1, .int x.2.1, .int x.2.2]
theorem int3_inj {a b c a' b' c' : Int} (h : [D.int a, .int b, .int c] = [.int a', .int b', .int c']) : a = a' ∧ b = b' ∧ c = c' := by
  injection h with h1 h
  injection h with h2 h
  injection h with h3 h
  injection h1 with h1
  injection h2 with h2
  injection h3 with h3
  exact ⟨h1, h2, h3⟩
theorem stE_inj : ∀ a b : StA, stE a = stE b → a = b := by
  rintro ⟨a1, a2, a3⟩ ⟨b1, b2, b3⟩ h
  obtain ⟨h1, h2, h3⟩ := int3_inj h
  dsimp only at h1 h2 h3
  rw [h1, h2, Int.ofNat.inj h3]
noncomputable def StOk (x : StA) : Prop := x.2.2 ≤ 10000 ∧ log60 x.2.1 = true ∧ ∀ y ∈ ups x.2.1 x.2.2 x.1, log60 y = true
noncomputable def F11 : List D → Option D := relF stE StOk (fun x => .tup [zl (fgs x.2.1 x.2.2 x.1), zl (ups x.2.1 x.2.2 x.1)])
noncomputable def cmE (x : Nat × Nat) : List D := [.int x.1, .int x.2]
theorem cmE_inj : ∀ a b : Nat × Nat, cmE a = cmE b → a = b := by
  rintro ⟨a1, a2⟩ ⟨b1, b2⟩ h
  unfold cmE at h
  injection h with h1 h
  injection h with h2 h
  injection h1 with h1
  injection h2 with h2
  exact Prod.ext (Int.ofNat.inj h1) (Int.ofNat.inj h2)
noncomputable def F12 : List D → Option D := relF cmE (fun _ => True) (fun x => .int (Nat.gcd x.1 x.2))
theorem rowsD_inj (a b : List (List Int)) (h : [rowsD a] = [rowsD b]) : a = b := by
  refine one_inj (fun a b h => ?_) a b h
  unfold rowsD at h
  injection h with h
  induction a generalizing b with
  | nil => cases b with
    | nil => rfl
    | cons y b => cases h
  | cons x a ih => cases b with
    | nil => cases h
    | cons y b =>
      rw [List.map_cons, List.map_cons] at h
      injection h with h1 h2
      rw [zl_inj h1, ih _ h2]
noncomputable def RwOk (rs : List (List Int)) : Prop := rs.length ≤ 1000 ∧ (octsR rs).length ≤ 1000 ∧ ∀ r ∈ rs, r ≠ [] ∧ r.length ≤ 1000 ∧ ∀ x ∈ r, 0 ≤ x ∧ x < 64
noncomputable def F13 : List D → Option D := relF (fun rs => [rowsD rs]) RwOk (fun rs => zl (rs.map (d2i 6)))
noncomputable abbrev HfA := Int × Int × Int
noncomputable def hfE (x : HfA) : List D := [.int x.1, .int x.2.1, .int x.2.2]
theorem hfE_inj : ∀ a b : HfA, hfE a = hfE b → a = b := by
  rintro ⟨a1, a2, a3⟩ ⟨b1, b2, b3⟩ h
  obtain ⟨h1, h2, h3⟩ := int3_inj h
  dsimp only at h1 h2 h3
  rw [h1, h2, h3]
noncomputable def HfOk (x : HfA) : Prop := 0 ≤ x.2.2 ∧ 0 ≤ x.1 ∧ x.1 < 2 ^ 59 ∧ 0 ≤ x.2.1 ∧ x.2.1 < 2 ^ 59
noncomputable def F14 : List D → Option D := relF hfE HfOk (fun x => pr1 (half x.1 x.2.1 x.2.2))
theorem int1_inj (a b : Int) (h : [D.int a] = [.int b]) : a = b := one_inj (fun _ _ h => by injection h) a b h
noncomputable def F15 : List D → Option D := relF (fun n : Int => [.int n]) (fun n => 0 ≤ n ∧ n < 4096) (fun _ => .bool true)

structure Law2 (prog : Program) (w : World) (p : Program) (loose : Heap → Prop) (mean : ExcName → Option Value) (mg mb : Str → Option Value) (cI tI cD tD : Addr) : Prop where
  B : Lib prog w p loose mean mg mb cI tI cD tD
  rPV : fPV ∈ recsOf p
  si : mg siS = none
  r11 : fST ∈ recsOf p
  r12 : fCM ∈ recsOf p
  r13 : fRD ∈ recsOf p
  r14 : fHF ∈ recsOf p
  r15 : fTW ∈ recsOf p

theorem mr_le : ∀ zs : List Int, mr zs ≤ zs.length
  | [] => Nat.le_refl _
  | c :: r => by
    have := mr_le r
    rw [mr, List.length_cons]
    split <;> (first | lia | omega)
theorem oc1_pos {x : Int} (j : Nat) (h : 0 ≤ x) : 0 ≤ oc1 x j := by
  unfold oc1
  split <;> (first | lia | omega)
theorem hiO_pos : ∀ (l : List Int), (∀ x ∈ l, 0 ≤ x) → ∀ c ∈ hiO l, 0 ≤ c
  | [], _, c, h => by cases h
  | f :: r, h, c, hc => by
    rcases List.mem_cons.mp hc with rfl | hc
    · exact oc1_pos _ (h f List.mem_cons_self)
    · exact hiO_pos r (fun x hx => h x (List.mem_cons_of_mem _ hx)) c hc
theorem octs_pos {rs : List (List Int)} (h : ∀ r ∈ rs, ∀ x ∈ r, 0 ≤ x) : ∀ c ∈ octsR rs, 0 ≤ c := by
  intro c hc
  obtain ⟨r, hr, hc⟩ := List.mem_flatMap.mp hc
  exact hiO_pos _ (fun x hx => h r hr x (List.mem_reverse.mp hx)) c hc
theorem fRD_body : ∃ a1 a2 a3 a4 a5 a6 a7 a8 b1 b2 b3 b4 b5 tp p1 p2 p3 p4 p5 p6 p7 p8 p9 q1 q2 q3 kk rest, fRD.body = (stAt fRD.body 0 :: stAt fRD.body 1 :: .Assign [.Name soS a1] (.Call (.Name (Str.ofString "iter") a2) [.Name ocS a3] [] a4) a5 :: .Assign [.Name toS a6] (.List [] a7) a8 ::
      .For (.Name tnS tp) (.BinOp (.Name ocS b1) .Add (.List [.Constant (.int 0) kk b2] b3) b4) [tryS toS soS p1 p2 p3 p4 p5 p6 p7 p8 p9 q1 q2 q3] [] b5 :: rest) ∧ p2.endLine = p6.line :=
  ⟨_, _, _, _, _, _, _, _, _, _, _, _, _, _, _, _, _, _, _, _, _, _, _, _, _, _, _, _, rfl, rfl⟩
theorem fRD_0 (Φ : Phi) (rs : D) : Run Φ noΨ fRD.scope.names (.S (stAt fRD.body 0)) (rdρ rs .unset .unset .unset .unset .unset .unset) (rdρ rs (.own []) .unset .unset .unset .unset .unset) .next := by
  refine .own (ds := []) (f := true) .s_nil rfl (by decide) rfl

section
variable {prog : Program} {w : World} {p : Program} {loose : Heap → Prop} {mean : ExcName → Option Value} {mg mb : Str → Option Value} {cI tI cD tD : Addr}
theorem Law2.st (W : Law2 prog w p loose mean mg mb cI tI cD tD) : ∀ ds d, F11 ds = some d → ∀ fv, mg fST.name = some fv → CallOk prog w p loose mean mg mb 1 fv ds d := by
  intro ds d e fv hfv
  obtain ⟨⟨u, l, n⟩, rfl, ⟨h1, h2, h3⟩, rfl⟩ := relF_some e
  refine ((fST_run noΦ u l n h1 h2 h3).ok W.B.Γ W.B.ΓO W.r11 (by decide +kernel) (fun pm code doc vs hv => ?_) rfl fv hfv)
  match vs, hv with
  | [v1, v2, v3], _ => rfl
theorem Law2.cm (W : Law2 prog w p loose mean mg mb cI tI cD tD) : ∀ ds d, F12 ds = some d → ∀ fv, mg fCM.name = some fv → CallOk prog w p loose mean mg mb 1 fv ds d := by
  intro ds d e fv hfv
  obtain ⟨⟨a, b⟩, rfl, _, rfl⟩ := relF_some e
  refine ((fCM_run noΦ a b).ok W.B.Γ W.B.ΓO W.r12 (by decide +kernel) (fun pm code doc vs hv => ?_) rfl fv hfv)
  obtain ⟨v1, v2, rfl⟩ := two_of hv
  rfl
theorem Law2.rd (W : Law2 prog w p loose mean mg mb cI tI cD tD) : ∀ ds d, F13 ds = some d → ∀ fv, mg fRD.name = some fv → CallOk prog w p loose mean mg mb 2 fv ds d := by
  intro ds d e
  obtain ⟨rs, rfl, ⟨h1, h2, h3⟩, rfl⟩ := relF_some e
  refine TailOk.call (dep := 1) W.r13 [Str.ofString "rows"] (by decide +kernel) (fun pm code doc vs hv => ?_) rfl ?_
  · match vs, hv with
    | [v1], _ => rfl
  · rw [fRD_rho]
    obtain ⟨a1, a2, a3, a4, a5, a6, a7, a8, b1, b2, b3, b4, b5, tp, p1, p2, p3, p4, p5, p6, p7, p8, p9, q1, q2, q3, kk, rest, hb, hp⟩ := fRD_body
    obtain ⟨ro, pl, g1, g2, run⟩ := fRD_loop noΦ rs (fun r hr => (h3 r hr).2.1) h1
    rw [hb]
    refine TailOk.cons (W.B.Γ.mono' (Nat.zero_le _)) (W.B.ΓO.mono' (Nat.zero_le _)) (fRD_0 noΦ (rowsD rs)) (TailOk.cons (W.B.Γ.mono' (Nat.zero_le _)) (W.B.ΓO.mono' (Nat.zero_le _)) run (TailOk.frz ?_))
    rw [← nums_octs rs fun r hr => ⟨(h3 r hr).1, (h3 r hr).2.2⟩]
    have ez : froz (rdρ (rowsD rs) (.own ((octsR rs).map .int)) ro pl .unset .unset .unset) = rdρ (rowsD rs) (.val (zl (octsR rs))) (frozS ro) (frozS pl) .unset .unset .unset := rfl
    rw [ez, g1.z, g2.z]
    refine TailOk.read W.B.Γ W.B.ΓO W.rPV W.si (by decide +kernel) (by decide +kernel) (by decide +kernel) hp (fun i => ?_) (by (first | lia | omega)) (octs_pos fun r hr x hx => ((h3 r hr).2.2 x hx).1) rfl rfl rfl ⟨.unset, rfl, rfl⟩
    have := mr_le ((octsR rs).drop i)
    rw [List.length_drop] at this
    (first | lia | omega)
theorem Law2.hf (W : Law2 prog w p loose mean mg mb cI tI cD tD) : ∀ ds d, F14 ds = some d → ∀ fv, mg fHF.name = some fv → CallOk prog w p loose mean mg mb 19 fv ds d := by
  intro ds d e fv hfv
  obtain ⟨⟨N, M, B⟩, rfl, ⟨h1, h2, h3, h4, h5⟩, rfl⟩ := relF_some e
  have Γ2 : Gx prog w p loose mean mg mb (addΦ "int_divmod" FM noΦ) 18 := (W.B.Γ.mono' (Nat.zero_le _)).add W.B.rM rfl (by decide +kernel) W.B.dm
  refine ((fHF_run _ (dmOk_of (by funext ds; simp only [addΦ, if_true])) N M B h1 h2 h3 h4 h5).ok Γ2 (W.B.ΓO.mono' (Nat.zero_le _)) W.r14 (by decide +kernel) (fun pm code doc vs hv => ?_) rfl fv hfv)
  match vs, hv with
  | [v1, v2, v3], _ => rfl
theorem Law2.tw (W : Law2 prog w p loose mean mg mb cI tI cD tD) : ∀ ds d, F15 ds = some d → ∀ fv, mg fTW.name = some fv → CallOk prog w p loose mean mg mb 20 fv ds d := by
  intro ds d e fv hfv
  obtain ⟨n, rfl, ⟨h1, h2⟩, rfl⟩ := relF_some e
  have Γ2 : Gx prog w p loose mean mg mb (addΦ "_law_half" F14 noΦ) 19 := (W.B.Γ.mono' (Nat.zero_le _)).add W.r14 rfl (by decide +kernel) W.hf
  have h59 : (4096 : Int) < 2 ^ 59 := by decide
  refine ((fTW_run (addΦ "_law_half" F14 noΦ) n (half n 4096 40).1 (half n 4096 40).2 (log60_of (by (first | lia | omega))) ?_ (two_ok n h1 h2)).ok Γ2 (W.B.ΓO.mono' (Nat.zero_le _)) W.r15 (by decide +kernel) (fun pm code doc vs hv => ?_) rfl fv hfv)
  · simp only [addΦ, if_true]
    exact relF_eq hfE_inj (a := (n, 4096, 40)) ⟨by show (0 : Int) ≤ 40; decide, h1, by show n < 2 ^ 59; (first | lia | omega), by show (0 : Int) ≤ 4096; decide, h59⟩
  · match vs, hv with
    | [v1], _ => rfl
noncomputable def Φ2 : Phi := addΦ "_law_stream" F11 (addΦ "_law_read" F13 (addΦ "_digits2int" FD (addΦ "_law_common" F12 (addΦ "_law_half" F14 (addΦ "int_divmod" FM (addΦ "_law_two_figures" F15 noΦ))))))
theorem Φ2_stream : Φ2 (Str.ofString "_law_stream") = F11 := by funext ds; simp [Φ2, addΦ]
theorem Φ2_read : Φ2 (Str.ofString "_law_read") = F13 := by funext ds; simp [Φ2, addΦ, ofString_eq]
theorem Φ2_d2i : Φ2 (Str.ofString "_digits2int") = FD := by funext ds; simp [Φ2, addΦ, ofString_eq]
theorem Φ2_common : Φ2 (Str.ofString "_law_common") = F12 := by funext ds; simp [Φ2, addΦ, ofString_eq]
theorem Φ2_half : Φ2 (Str.ofString "_law_half") = F14 := by funext ds; simp [Φ2, addΦ, ofString_eq]
theorem Φ2_dm : Φ2 (Str.ofString "int_divmod") = FM := by funext ds; simp [Φ2, addΦ, ofString_eq]
theorem Φ2_two : Φ2 (Str.ofString "_law_two_figures") = F15 := by funext ds; simp [Φ2, addΦ, ofString_eq]
theorem Law2.Γ (W : Law2 prog w p loose mean mg mb cI tI cD tD) : Gx prog w p loose mean mg mb Φ2 20 := by
  have up : ∀ {F : List D → Option D} {nm : Str} {k : Nat}, k ≤ 20 → (∀ ds d, F ds = some d → ∀ fv, mg nm = some fv → CallOk prog w p loose mean mg mb k fv ds d) → (∀ ds d, F ds = some d → ∀ fv, mg nm = some fv → CallOk prog w p loose mean mg mb 20 fv ds d) :=
    fun h k ds d e fv hf => CallOk.mono h (k ds d e fv hf)
  exact (((((((W.B.Γ.mono' (Nat.zero_le _)).add W.r15 rfl (by decide +kernel) W.tw).add W.B.rM rfl (by decide +kernel) (up (by decide) W.B.dm)).add W.r14 rfl (by decide +kernel) (up (by decide) W.hf)).add W.r12 rfl (by decide +kernel) (up (by decide) W.cm)).add W.B.rD rfl (by decide +kernel) (up (by decide) W.B.d2i)).add W.r13 rfl (by decide +kernel) (up (by decide) W.rd)).add W.r11 rfl (by decide +kernel) (up (by decide) W.st)
end
end
section -- QL
theorem pow_is {x y z : Int} (h0 : 0 ≤ y) (h1 : y ≤ 1000) (h2 : log60 x = true) (hz : x ^ y.toNat = z) : bopR .Pow (.int x, true) (.int y, true) = some (.int z, true) := by
  rw [← hz]; exact if_pos ⟨h0, h1, h2⟩
structure Wd (w : Nat) (p8 : Int) : Prop where
  w1 : 2 ≤ w
  w2 : w ≤ 4
  e1 : bopR .Pow (.int 8, true) (.int ((w : Int) - 1), true) = some (.int p8, true)
  p1 : 8 ≤ p8
  p2 : p8 ≤ 512
  wang : 2 * ((5 * p8) * (5 * p8)) < 2 ^ (6 * w)
theorem wd_of (x : Int) : ∃ w p8, Wd w p8 ∧ 2 + x % 3 = (w : Int) := by
  have : x % 3 = 0 ∨ x % 3 = 1 ∨ x % 3 = 2 := by (first | lia | omega)
  rcases this with h | h | h
  · exact ⟨2, 8, ⟨by decide, by decide, pow_is (by decide) (by decide) (by decide) (by decide), by decide, by decide, by decide⟩, by (first | lia | omega)⟩
  · exact ⟨3, 64, ⟨by decide, by decide, pow_is (by decide) (by decide) (by decide) (by decide), by decide, by decide, by decide⟩, by (first | lia | omega)⟩
  · exact ⟨4, 512, ⟨by decide, by decide, pow_is (by decide) (by decide) (by decide) (by decide), by decide, by decide, by decide⟩, by (first | lia | omega)⟩
theorem pick_len1 (l : List D) (h : l.length ≤ 63) : (pickD l (some 1) none (some 2)).length ≤ line24 := by
  unfold pickD
  refine Nat.le_trans (List.length_filterMap_le ..) ?_
  have : ∀ n : Fin 64, (sliceRange (sliceBounds (some 1) none (some 2) n.val).1 (sliceBounds (some 1) none (some 2) n.val).2.1 (sliceBounds (some 1) none (some 2) n.val).2.2).length ≤ line24 := by decide +kernel
  exact this ⟨l.length, by (first | lia | omega)⟩
theorem pick_len2 (l : List D) (h : l.length ≤ 63) : (pickD l (some 2) none (some 2)).length ≤ line24 := by
  unfold pickD
  refine Nat.le_trans (List.length_filterMap_le ..) ?_
  have : ∀ n : Fin 64, (sliceRange (sliceBounds (some 2) none (some 2) n.val).1 (sliceBounds (some 2) none (some 2) n.val).2.1 (sliceBounds (some 2) none (some 2) n.val).2.2).length ≤ line24 := by decide +kernel
  exact this ⟨l.length, by (first | lia | omega)⟩
theorem idx_some {l : List Int} {i : Nat} {x : Int} (h : l[i]? = some x) : idxD (zl l, true) (i : Int) = some (.int x, true) := by
  obtain ⟨hi, e⟩ := List.getElem?_eq_some_iff.mp h
  rw [← e]
  exact idx_int l true i hi
theorem octs_len : ∀ rs : List (List Int), (∀ r ∈ rs, r.length ≤ 8) → (octsR rs).length ≤ 8 * rs.length
  | [], _ => Nat.le_refl _
  | r :: rs, h => by
    have := octs_len rs fun q hq => h q (List.mem_cons_of_mem _ hq)
    have := h r List.mem_cons_self
    show (hiO r.reverse ++ octsR rs).length ≤ _
    rw [List.length_append, hiO_len, List.length_reverse, List.length_cons]
    (first | lia | omega)
theorem d2i_c {r : List Int} (h : r.length ≤ 1000) (hd : ∀ x ∈ r, 0 ≤ x ∧ x < 64) : Φ2 (Str.ofString "_digits2int") [zl r, .int 6] = some (.int (d2i 6 r)) := by
  rw [Φ2_d2i]
  unfold zl
  simp only [FD]
  rw [intsOf_map]
  show (if (0 : Int) ≤ 6 ∧ (6 : Int).toNat * r.length ≤ 7000 ∧ r.length ≤ 4096 ∧ (∀ x ∈ r, 0 ≤ x ∧ x < 2 ^ (6 : Int).toNat) then some (D.int (d2i (6 : Int).toNat r)) else none) = _
  rw [if_pos ⟨by decide, by show 6 * r.length ≤ 7000; (first | lia | omega), by (first | lia | omega), hd⟩]
  rfl
theorem half_c {N M B : Int} (hN : 0 ≤ N) (hN2 : N < 2 ^ 59) (hM : 0 ≤ M) (hM2 : M < 2 ^ 59) (hB : 0 ≤ B) : Φ2 (Str.ofString "_law_half") [.int N, .int M, .int B] = some (pr1 (half N M B)) := by
  rw [Φ2_half]
  exact relF_eq hfE_inj (a := (N, M, B)) ⟨hB, hN, hN2, hM, hM2⟩
theorem d2i_row (p : Int) : d2i 6 (rowP p) = p := by
  have e6 : (2 : Int) ^ 6 = 64 := rfl
  unfold rowP
  simp only [d2i, e6]
  (first | lia | omega)
theorem dm_both {Φ : Phi} (h : DmOk Φ) {lo n0 po u1 up mo : Int} (hpo : 0 < po) (hpo2 : po < 2 ^ 2900) (ha : -(2 ^ 2900) < lo * n0) (ha2 : lo * n0 < 2 ^ 2900) (e : up = n0 * lo + po * u1) (hmo : mo = if 0 < up then 1 else 0) (h0 : -po < up) (h1 : up < po) :
    Φ (Str.ofString "int_divmod") [.int (lo * n0), .int (-po)] = some (.tup [.int (u1 - mo), .int (up - mo * po)]) := by
  rw [dm_2 h hpo hpo2 ha ha2]
  have e1 : -(lo * n0) = (mo * po - up) + po * (u1 - mo) := by rw [e]; grind
  have hr : 0 ≤ mo * po - up ∧ mo * po - up < po := by
    split at hmo <;> subst hmo <;> (first | lia | omega)
  rw [e1, Int.add_mul_ediv_left _ _ (by (first | lia | omega)), Int.add_mul_emod_self_left, Int.ediv_eq_zero_of_lt hr.1 hr.2, Int.emod_eq_of_lt hr.1 hr.2, Int.zero_add, Int.neg_sub]
theorem lt29 {x : Int} (h : x < 2 ^ 59) : x < 2 ^ 2900 := Int.lt_of_lt_of_le h (pow2_le (by decide))
theorem gt29 {x : Int} (h : -(2 ^ 59) < x) : -(2 ^ 2900) < x := Int.lt_of_le_of_lt (Int.neg_le_neg (pow2_le (by decide))) h
theorem lo_facts {p8 a : Int} (h : 8 ≤ p8) : loF p8 a % 2 = 1 ∧ 0 < loF p8 a ∧ loF p8 a ≤ 5 * p8 := by
  unfold loF
  have h1 := Int.emod_nonneg (57 + 40503 * a) (show 5 * p8 / 2 ≠ 0 by (first | lia | omega))
  have h2 := Int.emod_lt_of_pos (57 + 40503 * a) (show 0 < 5 * p8 / 2 by (first | lia | omega))
  (first | lia | omega)
theorem up_facts {p8 a : Int} (h : 8 ≤ p8) : -(5 * p8) ≤ upF2 p8 a ∧ upF2 p8 a ≤ 5 * p8 := by
  unfold upF2
  have h1 := Int.emod_nonneg (91 + 30011 * a) (show 2 * (5 * p8) + 1 ≠ 0 by (first | lia | omega))
  have h2 := Int.emod_lt_of_pos (91 + 30011 * a) (show 0 < 2 * (5 * p8) + 1 by (first | lia | omega))
  (first | lia | omega)
theorem paF_mem (xs : List Int) : ∀ p ∈ paF xs, 0 ≤ p ∧ p < 4096 := by
  intro p hp
  unfold paF at hp
  rcases List.mem_append.mp hp with h | h
  · simp only [List.mem_cons, List.not_mem_nil, or_false] at h
    rcases h with rfl | rfl | rfl <;> decide
  · obtain ⟨x, _, rfl⟩ := List.mem_map.mp h
    exact ⟨Int.emod_nonneg _ (by decide), Int.emod_lt_of_pos _ (by decide)⟩
theorem paF_len (xs : List Int) : (paF xs).length ≤ 5 := by
  unfold paF
  rw [List.length_append, List.length_map, List.length_take]
  show 3 + min 2 xs.length ≤ 5
  (first | lia | omega)

/-- the numbers, and what is told of them -/
theorem law2_rets (xs : List Int) (hx : xs.length ≤ 63) : Rets Φ2 noΨ fLA [Str.ofString "script"] [zl xs] (.bool true) := by
  obtain ⟨w, p8, ⟨w1, w2, pe, p1, p2, wang⟩, hw⟩ := wd_of (firstF xs)
  obtain ⟨r1, h6⟩ := pickD_ints xs (some 1) none (some 2)
  obtain ⟨r2, h7⟩ := pickD_ints xs (some 2) none (some 2)
  have l1 := pick_len1 (xs.map .int) (by rw [List.length_map]; exact hx)
  have l2 := pick_len2 (xs.map .int) (by rw [List.length_map]; exact hx)
  rw [h6] at l1
  rw [h7] at l2
  have q2 := fLA_2 Φ2 xs (.int (firstF xs)) w (by (first | lia | omega)) p8 pe (by (first | lia | omega)) (by (first | lia | omega)) r1 r2 h6 h7 l1 l2
  obtain ⟨lo2, lo0, loB⟩ := lo_facts (a := r1.sum) p1
  obtain ⟨up0, up1⟩ := up_facts (a := r2.sum) p1
  generalize loF p8 r1.sum = lo at *
  generalize upF2 p8 r2.sum = up at *
  have q0 := fLA_0 Φ2 xs
  rw [hw] at q0
  generalize firstF xs = fi at *
  have hB40 : 40 ≤ 5 * p8 ∧ 5 * p8 ≤ 2560 := by (first | lia | omega)
  clear pe p1 p2 h6 h7 l1 l2 hw
  generalize 5 * p8 = B at *
  have hpo : (64 : Int) ^ w = 2 ^ (6 * w) := by rw [show (64 : Int) = 2 ^ 6 from rfl, ← Int.pow_mul]
  have hpo2 : (64 : Int) ^ w * 64 ^ w = 2 ^ (6 * (2 * w)) := by rw [hpo, ← Int.pow_add]; congr 1; (first | lia | omega)
  have hpoM : (64 : Int) ^ w ≤ 2 ^ 24 := by rw [hpo]; exact pow2_le (by (first | lia | omega))
  rw [← hpo] at wang
  have hBB : B * 40 ≤ B * B := Int.mul_le_mul_of_nonneg_left (by (first | lia | omega)) (by (first | lia | omega))
  have hBpo : B < 64 ^ w := by (first | lia | omega)
  have hlog : ∀ x : Int, -2560 ≤ x → x ≤ 2560 → log60 x = true := fun x h1 h2 => log60_of (by (first | lia | omega))
  -- the stream
  have hbd : ∀ k, -B ≤ uF lo k up ∧ uF lo k up ≤ B := fun k => uF_bd lo B lo2 lo0 loB k up up0 up1
  have hS : Φ2 (Str.ofString "_law_stream") [.int up, .int lo, .int (3 * (w : Int))] = some (.tup [zl (fgs lo (3 * w) up), zl (ups lo (3 * w) up)]) := by
    rw [Φ2_stream, show 3 * (w : Int) = ((3 * w : Nat) : Int) by (first | lia | omega)]
    refine relF_eq stE_inj (a := (up, lo, 3 * w)) ⟨by dsimp only; (first | lia | omega), hlog _ (by dsimp only; (first | lia | omega)) (by dsimp only; (first | lia | omega)), fun y hy => ?_⟩
    obtain ⟨i, rfl⟩ := ups_mem _ _ _ y hy
    have := hbd i
    exact hlog _ (by dsimp only at *; (first | lia | omega)) (by dsimp only at *; (first | lia | omega))
  have hus := ups_get lo (3 * w)
  have hu1 : uF lo (1 * w) up = uF lo w up := by rw [Nat.one_mul]
  have hu2 : uF lo (2 * w) up = uF lo w (uF lo w up) := by rw [show 2 * w = w + w by (first | lia | omega), uF_add]
  have hfg : fgs lo (3 * w) up = fgs lo w up ++ (fgs lo w (uF lo w up) ++ fgs lo w (uF lo w (uF lo w up))) := by
    rw [show 3 * w = w + (w + w) by (first | lia | omega), fgs_add, fgs_add]
  have hlg : fgs lo (2 * w) (uF lo w up) = fgs lo w (uF lo w up) ++ fgs lo w (uF lo w (uF lo w up)) := by
    rw [show 2 * w = w + w by (first | lia | omega), fgs_add]
  have hft : (fgs lo (3 * w) up).take w = fgs lo w up := by rw [hfg]; exact List.take_left' (fgs_len ..)
  have hfd : (fgs lo (3 * w) up).drop w = fgs lo (2 * w) (uF lo w up) := by rw [hfg, hlg]; exact List.drop_left' (fgs_len ..)
  have hlt : (fgs lo (2 * w) (uF lo w up)).take w = fgs lo w (uF lo w up) := by rw [hlg]; exact List.take_left' (fgs_len ..)
  have hld : (fgs lo (2 * w) (uF lo w up)).drop w = fgs lo w (uF lo w (uF lo w up)) := by rw [hlg]; exact List.drop_left' (fgs_len ..)
  have q6 := fLA_6 Φ2 xs (.int fi) (.int (64 ^ w)) (.int B) w (by (first | lia | omega)) lo up _ _ (by rw [hfd, List.length_map, fgs_len]; unfold line24; (first | lia | omega)) hS
  rw [hfd] at q6
  have hll : (fgs lo (2 * w) (uF lo w up)).length = 2 * w := fgs_len ..
  have q10 := fLA_10 Φ2 xs (fgs lo (2 * w) (uF lo w up)) (.int fi) (.int (64 ^ w)) (.int B) (.int lo) (.int up) (zl (fgs lo (3 * w) up)) (zl (ups lo (3 * w) up)) w (by (first | lia | omega)) xs.sum (xs.sum % (2 * (w : Int))) hll
  have hlm := fgs_mem lo (2 * w) (uF lo w up)
  have hlg0 := d2i6_lt hlm
  rw [hll] at hlg0
  obtain ⟨sp, hsp⟩ := Int.eq_ofNat_of_zero_le (Int.emod_nonneg xs.sum (show 2 * (w : Int) ≠ 0 by (first | lia | omega)))
  have hspl : sp < 2 * w := by
    have := Int.emod_lt_of_pos xs.sum (show 0 < 2 * (w : Int) by (first | lia | omega))
    (first | lia | omega)
  rw [show ((sp : Nat) : Int) = Int.ofNat sp from rfl] at *
  rw [hsp] at q6 q10
  obtain ⟨δ, hδ, d0, d1, d2⟩ := smF_d2i _ xs.sum sp hlm (by rw [hll]; exact hspl)
  rw [hll] at hδ
  have hsm := smF_mem (fgs lo (2 * w) (uF lo w up)) xs.sum sp (2 * w)
  have hsl : (smF (fgs lo (2 * w) (uF lo w up)) xs.sum sp (2 * w)).length = 2 * w := by unfold smF; rw [List.length_map, List.length_range]
  have hsm0 := d2i6_lt hsm
  rw [hsl] at hsm0
  have hn3 : d2i 6 (fgs lo (2 * w) (uF lo w up)) = d2i 6 (fgs lo w (uF lo w up)) + 64 ^ w * d2i 6 (fgs lo w (uF lo w (uF lo w up))) := by
    rw [hlg, d2i_append, fgs_len, hpo]
  have q11 := fLA_11 Φ2 xs (.int sp) (.int xs.sum) (zl (fgs lo (2 * w) (uF lo w up))) (.int fi) (.int w) (.int (64 ^ w)) (.int B) (.int lo) (.int up) (zl (fgs lo (3 * w) up)) (zl (ups lo (3 * w) up)) (zl (smF (fgs lo (2 * w) (uF lo w up)) xs.sum sp (2 * w)))
  have q12 := fLA_12 Φ2 xs (fgs lo (3 * w) up) (fgs lo (2 * w) (uF lo w up)) (smF (fgs lo (2 * w) (uF lo w up)) xs.sum sp (2 * w)) (.int sp) (.int xs.sum) (.int fi) (.int (64 ^ w)) (.int B) (.int lo) (.int up) (zl (ups lo (3 * w) up)) (zl (paF xs)) w (by rw [fgs_len]; (first | lia | omega)) (by rw [fgs_len]; (first | lia | omega))
  rw [hft, hlt, hld] at q12
  have s0 := stream_sum lo lo2 w up
  have s1 := stream_sum lo lo2 w (uF lo w up)
  have s2 := stream_sum lo lo2 w (uF lo w (uF lo w up))
  have s3 := stream_sum lo lo2 (2 * w) (uF lo w up)
  have g1 := gcd_uF lo lo2 w up
  have g2 := gcd_uF lo lo2 w (uF lo w up)
  rw [g1] at g2
  have b1 := hbd w
  have b2 := hbd (2 * w)
  rw [hu2] at b2
  have v1 := uF_neg lo B lo2 lo0 loB w up up0 up1 (by rw [← hpo]; exact hBpo)
  have f0 := fgs_mem lo w up
  have f1 := fgs_mem lo w (uF lo w up)
  have f2 := fgs_mem lo w (uF lo w (uF lo w up))
  have k0 := d2i6_lt f0
  have k1 := d2i6_lt f1
  have k2 := d2i6_lt f2
  rw [fgs_len] at k0 k1 k2
  have c0 := fgs_len lo w up
  have c1 := fgs_len lo w (uF lo w up)
  have c2 := fgs_len lo w (uF lo w (uF lo w up))
  have t1 := hus w up (by (first | lia | omega))
  have t0 := hus 0 up (by (first | lia | omega))
  have t2 := hus (2 * w) up (by (first | lia | omega))
  rw [hu2] at t2
  have v3 := uF_neg lo B lo2 lo0 loB (2 * w) (uF lo w up) b1.1 b1.2 (by
    rw [← hpo2]
    have : (64 : Int) ^ w * 1 ≤ 64 ^ w * 64 ^ w := Int.mul_le_mul_of_nonneg_left (by (first | lia | omega)) (by (first | lia | omega))
    (first | lia | omega))
  generalize uF lo (2 * w) (uF lo w up) = U3 at *
  generalize uF lo w (uF lo w (uF lo w up)) = U3' at *
  generalize hU2 : uF lo w (uF lo w up) = u2 at *
  generalize hU1 : uF lo w up = u1 at *
  clear hlg hfg hus hu1 hu2 hft hfd hlt hld hU1 hU2 hbd hS
  generalize fgs lo (2 * w) u1 = lg at *
  generalize fgs lo w up = a0 at *
  generalize fgs lo w u1 = a1 at *
  generalize fgs lo w u2 = a2 at *
  generalize fgs lo (3 * w) up = fg at *
  generalize ups lo (3 * w) up = us at *
  generalize smF lg xs.sum sp (2 * w) = sm at *
  generalize (64 : Int) ^ w = po at *
  rw [← hpo] at s0 s1 s2 k0 k1 k2
  rw [← hpo2] at s3 hlg0 hsm0
  have po0 : 0 < po := by (first | lia | omega)
  have e24 : (2 : Int) ^ 24 = 16777216 := rfl
  rw [e24] at hpoM
  have hpp : po * po ≤ 16777216 * 16777216 := Int.mul_le_mul hpoM hpoM (by (first | lia | omega)) (by decide)
  have hpp1 : po * 1 ≤ po * po := Int.mul_le_mul_of_nonneg_left (by (first | lia | omega)) (by (first | lia | omega))
  have e59 : (2 : Int) ^ 59 = 576460752303423488 := rfl
  -- the rows
  have q13 := fLA_13 Φ2 xs (paF xs) [a0, a1, a2, lg, sm] (.int sp) (.int xs.sum) (zl lg) (.int fi) (.int w) (.int po) (.int B) (.int lo) (.int up) (zl fg) (zl us) (zl sm) (by have := paF_len xs; (first | lia | omega)) (by show 5 ≤ 10000; decide)
  have hR : ∀ r ∈ [a0, a1, a2, lg, sm] ++ (paF xs).map rowP, r ≠ [] ∧ r.length ≤ 8 ∧ ∀ x ∈ r, 0 ≤ x ∧ x < 64 := by
    intro r hr
    have ne : ∀ {l : List Int} {n : Nat}, l.length = n → 0 < n → l ≠ [] := fun h h2 e => by rw [e] at h; simp at h; (first | lia | omega)
    rcases List.mem_append.mp hr with hr | hr
    · simp only [List.mem_cons, List.not_mem_nil, or_false] at hr
      rcases hr with rfl | rfl | rfl | rfl | rfl
      · exact ⟨ne c0 (by (first | lia | omega)), by (first | lia | omega), f0⟩
      · exact ⟨ne c1 (by (first | lia | omega)), by (first | lia | omega), f1⟩
      · exact ⟨ne c2 (by (first | lia | omega)), by (first | lia | omega), f2⟩
      · exact ⟨ne hll (by (first | lia | omega)), by (first | lia | omega), hlm⟩
      · exact ⟨ne hsl (by (first | lia | omega)), by (first | lia | omega), hsm⟩
    · obtain ⟨p, hp, rfl⟩ := List.mem_map.mp hr
      have := paF_mem xs p hp
      refine ⟨by unfold rowP; simp, by unfold rowP; exact Nat.le_of_ble_eq_true rfl, fun x hx => ?_⟩
      unfold rowP at hx
      simp only [List.mem_cons, List.not_mem_nil, or_false] at hx
      rcases hx with rfl | rfl <;> (first | lia | omega)
  have hRl : ([a0, a1, a2, lg, sm] ++ (paF xs).map rowP).length ≤ 10 := by
    have := paF_len xs
    rw [List.length_append, List.length_map]
    show 5 + (paF xs).length ≤ 10
    (first | lia | omega)
  have hns : ([a0, a1, a2, lg, sm] ++ (paF xs).map rowP).map (d2i 6) = d2i 6 a0 :: d2i 6 a1 :: d2i 6 a2 :: d2i 6 lg :: d2i 6 sm :: paF xs := by
    rw [List.map_append, List.map_map]
    have : (paF xs).map (d2i 6 ∘ rowP) = paF xs := by
      conv => rhs; rw [← List.map_id (paF xs)]
      apply List.map_congr_left
      intro p _
      exact d2i_row p
    rw [this]
    rfl
  generalize [a0, a1, a2, lg, sm] ++ (paF xs).map rowP = R at *
  have hol := octs_len R fun r hr => (hR r hr).2.1
  have q14 := fLA_14 Φ2 xs (R.map (d2i 6)) (rowsD R) (.int sp) (.int xs.sum) (zl lg) (.int fi) (.int w) (.int po) (.int B) (.int lo) (.int up) (zl fg) (zl us) (zl sm) (zl (paF xs)) (by
    rw [Φ2_read]
    exact relF_eq (enc := fun rs => [rowsD rs]) rowsD_inj (a := R) ⟨by (first | lia | omega), by (first | lia | omega), fun r hr => ⟨(hR r hr).1, by have := (hR r hr).2.1; (first | lia | omega), (hR r hr).2.2⟩⟩)
  have q15 := fLA_15 Φ2 xs R (.int sp) (.int xs.sum) (zl lg) (.int fi) (.int w) (.int po) (.int B) (.int lo) (.int up) (zl fg) (zl us) (zl sm) (zl (paF xs)) fun r hr => d2i_c (by have := (hR r hr).2.1; (first | lia | omega)) (hR r hr).2.2
  rw [hns] at q14 q15
  have q16 := fLA_16 Φ2 xs up lo (Int.gcd up lo) (rowsD R) (zl (d2i 6 a0 :: d2i 6 a1 :: d2i 6 a2 :: d2i 6 lg :: d2i 6 sm :: paF xs)) (.int sp) (.int xs.sum) (zl lg) (.int fi) (.int w) (.int po) (.int B) (zl fg) (zl us) (zl sm) (zl (paF xs)) (by
    have ea : absI up = (up.natAbs : Int) := by unfold absI; split <;> (first | lia | omega)
    have el : lo = (lo.natAbs : Int) := by (first | lia | omega)
    rw [ea, Φ2_common]
    conv => lhs; rw [el]
    exact relF_eq cmE_inj (a := (up.natAbs, lo.natAbs)) trivial)
  have co0 : 0 < (Int.gcd up lo : Int) := by
    have := Int.gcd_pos_of_ne_zero_right up (show lo ≠ 0 by (first | lia | omega))
    (first | lia | omega)
  have col : (Int.gcd up lo : Int) ≤ lo := Int.le_of_dvd lo0 (Int.gcd_dvd_right ..)
  have h0 := half_is (6 * w) hpo (by (first | lia | omega)) k0.1 k0.2 wang hBpo lo0 loB up0 up1 s0 lo2
  have h1 := half_is (6 * w) hpo (by (first | lia | omega)) k1.1 k1.2 wang hBpo lo0 loB b1.1 b1.2 s1 lo2
  have h2 := half_is (6 * w) hpo (by (first | lia | omega)) k2.1 k2.2 wang hBpo lo0 loB b2.1 b2.2 s2 lo2
  have h3 := half_is (6 * (2 * w)) hpo2 (by (first | lia | omega)) hlg0.1 hlg0.2 (by (first | lia | omega)) (by (first | lia | omega)) lo0 loB b1.1 b1.2 s3 lo2
  rw [g1] at h1 h3
  rw [g2] at h2
  generalize hco : (Int.gcd up lo : Int) = co at *
  have hns' : ∀ k : Nat, k < 3 → ∃ nk uk, idxD (zl (d2i 6 a0 :: d2i 6 a1 :: d2i 6 a2 :: d2i 6 lg :: d2i 6 sm :: paF xs), true) (k : Int) = some (.int nk, true) ∧ idxD (zl us, true) ((k : Int) * (w : Int)) = some (.int uk, true) ∧ Φ2 (Str.ofString "_law_half") [.int nk, .int po, .int B] = some (.tup [.int (uk / co), .int (lo / co)]) := by
    intro k hk
    have hk3 : k = 0 ∨ k = 1 ∨ k = 2 := by (first | lia | omega)
    rcases hk3 with rfl | rfl | rfl
    · refine ⟨d2i 6 a0, up, idx_some rfl, ?_, ?_⟩
      · have := idx_some t0
        rw [show ((0 : Nat) : Int) * (w : Int) = ((0 : Nat) : Int) by (first | lia | omega)]
        exact this
      · rw [half_c k0.1 (by (first | lia | omega)) (by (first | lia | omega)) (by (first | lia | omega)) (by (first | lia | omega)), h0]
        rfl
    · refine ⟨d2i 6 a1, u1, idx_some rfl, ?_, ?_⟩
      · have := idx_some t1
        rw [show ((1 : Nat) : Int) * (w : Int) = (w : Int) by (first | lia | omega)]
        exact this
      · rw [half_c k1.1 (by (first | lia | omega)) (by (first | lia | omega)) (by (first | lia | omega)) (by (first | lia | omega)), h1]
        rfl
    · refine ⟨d2i 6 a2, u2, idx_some rfl, ?_, ?_⟩
      · have := idx_some t2
        rw [show ((2 : Nat) : Int) * (w : Int) = ((2 * w : Nat) : Int) by (first | lia | omega)]
        exact this
      · rw [half_c k2.1 (by (first | lia | omega)) (by (first | lia | omega)) (by (first | lia | omega)) (by (first | lia | omega)), h2]
        rfl
  have w60 : log60 (w : Int) = true := log60_of (by (first | lia | omega))
  have co60 : log60 co = true := hlog co (by (first | lia | omega)) (by (first | lia | omega))
  have po60 : log60 po = true := log60_of (by (first | lia | omega))
  have co8 : log8 co = true := log8_of (Nat.lt_of_lt_of_le (show co.natAbs < 2 ^ 60 by (first | lia | omega)) (Nat.pow_le_pow_right (by decide) (by decide)))
  obtain ⟨k, pk, q17⟩ := fLA_17 Φ2 xs _ us po B lo co w (.int up) (rowsD R) (.int sp) (.int xs.sum) (zl lg) (.int fi) (zl fg) (zl sm) (zl (paF xs)) co0 co8 w60 hns'
  have H := half_ok (d2i 6 sm) (po * po) B (by (first | lia | omega)) hsm0.1 hsm0.2 (by (first | lia | omega))
  have hc4 := half_c (N := d2i 6 sm) (M := po * po) (B := B) hsm0.1 (by (first | lia | omega)) (by (first | lia | omega)) (by (first | lia | omega)) (by (first | lia | omega))
  have hdm : DmOk Φ2 := dmOk_of Φ2_dm
  have ln0 : lo * d2i 6 a0 ≤ 16777216 * 16777216 := Int.mul_le_mul (by (first | lia | omega)) (by (first | lia | omega)) k0.1 (by decide)
  have ln1 : 0 ≤ lo * d2i 6 a0 := Int.mul_nonneg (by (first | lia | omega)) k0.1
  have m1 := dm_both hdm (lo := lo) (n0 := d2i 6 a0) (mo := if 0 < up then 1 else 0) po0 (lt29 (by (first | lia | omega))) (gt29 (by (first | lia | omega))) (lt29 (by (first | lia | omega))) s0 rfl (by (first | lia | omega)) (by (first | lia | omega))
  have m2 : Φ2 (Str.ofString "int_divmod") [.int (d2i 6 lg), .int po] = some (.tup [.int (d2i 6 a2), .int (d2i 6 a1)]) := by
    rw [dm_1 hdm po0 (lt29 (by (first | lia | omega))) (gt29 (by (first | lia | omega))) (lt29 (by (first | lia | omega))), hn3, Int.add_mul_ediv_left _ _ (by (first | lia | omega)), Int.add_mul_emod_self_left, Int.ediv_eq_zero_of_lt k1.1 k1.2, Int.emod_eq_of_lt k1.1 k1.2, Int.zero_add]
  have hc3 : Φ2 (Str.ofString "_law_half") [.int (d2i 6 lg), .int (po * po), .int B] = some (.tup [.int (u1 / co), .int (lo / co)]) := by
    rw [half_c hlg0.1 (by (first | lia | omega)) (by (first | lia | omega)) (by (first | lia | omega)) (by (first | lia | omega)), h3]
    rfl
  generalize hp4 : half (d2i 6 sm) (po * po) B = p4 at *
  obtain ⟨ov, be⟩ := p4
  dsimp only at H
  have q18 := fLA_18 Φ2 xs (d2i 6 a0 :: d2i 6 a1 :: d2i 6 a2 :: d2i 6 lg :: d2i 6 sm :: paF xs) us po B lo up co (d2i 6 a0) (d2i 6 a1) (d2i 6 a2) (d2i 6 lg) (d2i 6 sm) u1 _ ov be w (rowsD R) (.int sp) (.int xs.sum) (zl lg) (.int fi) (zl fg) (zl sm) (zl (paF xs)) k pk co0 co8 po60 rfl (hlog lo (by (first | lia | omega)) (by (first | lia | omega))) (idx_some (i := 0) rfl) (idx_some (i := 1) rfl) (idx_some (i := 2) rfl) (idx_some (i := 3) rfl) (idx_some (i := 4) rfl) (idx_some t1) hc3 m1 m2 hc4
  have t0b := H.t0
  have tB := H.tB
  obtain ⟨x, hxc⟩ := H.c
  have beB : be * 1 ≤ be * B := Int.mul_le_mul_of_nonneg_left (by (first | lia | omega)) (by (first | lia | omega))
  have hv1 : (decide (be % 2 = 1) && (decide (be ≤ B) && ((decide (-be ≤ ov) && decide (ov ≤ 0)) && true))) = false := by
    refine Bool.eq_false_iff.mpr fun h => ?_
    simp only [Bool.and_eq_true, decide_eq_true_eq, and_true] at h
    obtain ⟨x1, x2, x3, x4⟩ := h
    have hlb : lo * be ≤ B * B := Int.mul_le_mul loB x2 (by (first | lia | omega)) (by (first | lia | omega))
    refine smudge (w := w) (sp := sp) (l := lo) (be := be) (L := d2i 6 lg) (N := d2i 6 sm) (δ := δ) (U := u1) (W := U3) (V := -x) (ov := ov) hspl lo2 x1 lo0 t0b ?_ hlg0.1 ?_ hsm0.1 ?_ hδ d0 d1 d2 ?_ v1.1 v1.2 ?_ x3 x4
    · rw [← hpo]; (first | lia | omega)
    · rw [← hpo2]; exact hlg0.2
    · rw [← hpo2]; exact hsm0.2
    · rw [← hpo2, Int.mul_comm lo]; exact s3
    · rw [← hpo2, Int.mul_neg]; (first | lia | omega)
  have hv2 : (!(decide (0 < be * B) && decide (be * B < po * po)) || (!decide ((be * d2i 6 sm - ov) % (po * po) = 0) || false)) = false := by
    rw [decide_eq_true (show 0 < be * B by (first | lia | omega)), decide_eq_true tB, decide_eq_true (show (be * d2i 6 sm - ov) % (po * po) = 0 by rw [hxc]; exact Int.mul_emod_right ..)]
    rfl
  have q23 := fLA_23 Φ2 xs (d2i 6 a0 :: d2i 6 a1 :: d2i 6 a2 :: d2i 6 lg :: d2i 6 sm :: paF xs) po B (d2i 6 sm) ov be (.int lo) (.int up) (.int co) (.int (if 0 < up then 1 else 0)) (zl us) (.int w) (rowsD R) (.int sp) (.int xs.sum) (zl lg) (.int fi) (zl fg) (zl sm) (zl (paF xs)) k pk po60 (by (first | lia | omega)) (hlog B (by (first | lia | omega)) (by (first | lia | omega))) (idx_some (i := 4) rfl) (mulFit_l (log60_of (by (first | lia | omega)))) hv1 hv2
  obtain ⟨ρ', q25⟩ := fLA_25 Φ2 xs (d2i 6 a0 :: d2i 6 a1 :: d2i 6 a2 :: d2i 6 lg :: d2i 6 sm :: paF xs) (.int po) (.int B) (.int ov) (.int be) (.int lo) (.int up) (.int co) (.int (if 0 < up then 1 else 0)) (zl us) (.int w) (rowsD R) (.int sp) (.int xs.sum) (zl lg) (.int fi) (zl fg) (zl sm) (zl (paF xs)) k pk (by have := paF_len xs; simp; (first | lia | omega)) fun n hn => by
    rw [Φ2_two]
    exact relF_eq (enc := fun n : Int => [.int n]) int1_inj (a := n) (paF_mem xs n hn)
  unfold Rets
  rw [fLA_rho]
  refine ⟨ρ', ?_⟩
  refine run_split 2 q0 ?_
  refine run_split 4 q2 ?_
  refine run_split 4 q6 ?_
  refine run_split 1 (.cons q10 .nil) ?_
  refine run_split 1 (.cons q11 .nil) ?_
  refine run_split 1 (.cons q12 .nil) ?_
  refine run_split 1 (.cons q13 .nil) ?_
  refine run_split 1 (.cons q14 .nil) ?_
  refine run_split 1 (.cons q15 .nil) ?_
  refine run_split 1 (.cons q16 .nil) ?_
  refine run_split 1 (.cons q17 .nil) ?_
  refine run_split 5 q18 ?_
  refine run_split 2 q23 ?_
  exact q25
end
section -- QM
noncomputable abbrev tbs : List (Addr × Addr) := [(48, 44), (41, 37)]
noncomputable def looseN (mg : Str → Option Value) (h : Heap) : Prop := NestFn mg fI2D 41 37 h ∧ NestFn mg fD2I 48 44 h
theorem topX_of {p : Program} {Ls Ls' : List Str} {mean : ExcName → Option Value} {mg mb : Str → Option Value} {h1 : Heap} {K : Frag} (hT : TabsAt tbs h1) (T : Top p Ls mean mg mb h1) (T' : Top topProg Ls' mean mg mb (ghostOf h1 tbs)) (X : K.In (ghostOf h1 tbs))
    (cHD : CodeHd (ghostOf h1 tbs) 48 44) (cHI : CodeHd (ghostOf h1 tbs) 41 37) (rI : fI2D ∈ recsOf p) (rD : fD2I ∈ recsOf p) (k1 : tabIn K fI2D.name = some (41, 37)) (k2 : tabIn K fD2I.name = some (48, 44)) :
    TopX p (looseN mg) mean mg mb (ghostOf h1 tbs) where
  g := T'.g
  b := T'.b
  nolimit := T'.nolimit
  fn := fun d hd => by
    obtain ⟨a, o, pm, code, doc, e1, e2, e3, e4⟩ := T.fn d hd
    refine ⟨a, o, pm, code, doc, e1, ghost_get hT e2 (fun q => by rw [q] at e3; cases e3), e3, ?_⟩
    obtain ⟨c', oc, vs, tk, h1, h2, h3, h4⟩ := e4
    exact ⟨c', oc, vs, tk, h1, ghost_get hT h2 fun q => by
      rw [q] at h3
      have h3' : Data.fields #[] = Data.fields vs := h3
      cases h3'
      simp at h4, h3, h4⟩
  builtins := T'.builtins
  top := ⟨_, _, T'⟩
  ex := ⟨nestFn_of hT T X rI k1 cHI, nestFn_of hT T X rD k2 cHD⟩
  mono := fun h h' k e => ⟨e.1.keeps k, e.2.keeps k⟩

theorem law2_fin {prog : Program} {w : World} {p : Program} {Ls Ls' : List Str} {mean : ExcName → Option Value} {mg mb : Str → Option Value} {h1 : Heap} {K : Frag} {fa a : Addr} {cd : Value} {cells : Led} {vs : List Value} {xs : List Int} {s : Shared} {E : Value → Shared → Prop} {Q : Flow → Shared → Prop}
    (hT : TabsAt tbs h1) (T : Top p Ls mean mg mb h1) (T' : Top topProg Ls' mean mg mb (ghostOf h1 tbs)) (X : K.In (ghostOf h1 tbs)) (cHD : CodeHd (ghostOf h1 tbs) 48 44) (cHI : CodeHd (ghostOf h1 tbs) 41 37)
    (k1 : tabIn K fI2D.name = some (41, 37)) (k2 : tabIn K fD2I.name = some (48, 44)) (k3 : bnames.all (noneIn K) = true) (k4 : intIn K (Str.ofString "_DIV_LIMIT") 4000 = true) (k5 : noneIn K siS = true)
    (rs : ∀ r ∈ [fI2D, fD2I, fDV, fDP, fID, fPV, fST, fCM, fRD, fHF, fTW], r ∈ recsOf p)
    (F : Fr (ghostOf h1 tbs) h1.objs.size s.heap (bindL (envOfC fLA.name fLA.scope h1.objs.size fa cd).kindOf ([Str.ofString "script"].zip [.ref a]) fun _ => none))
    (N : News (ghostOf h1 tbs) h1.objs.size s.heap (cells ++ [(44, tabObj #[]), (37, tabObj #[])]))
    (Y : CellsAre (bindC (envOfC fLA.name fLA.scope h1.objs.size fa cd).kindOf ([Str.ofString "script"].zip [.ref a]) fun _ => none) (cellsFrom (h1.objs.size + 1) fLA.scope.names []) cells)
    (hsz : 44 < h1.objs.size ∧ 37 < h1.objs.size) (hl : (ghostOf h1 tbs).IsList a vs.toArray) (hi : IntsAre vs xs) (hlen : xs.length ≤ 63)
    (hQ : ∀ h' m' tk', Fr (ghostOf h1 tbs) h1.objs.size h' m' → GrownAll tbs h' → Q (.ret (.bool true)) { s with heap := h', toks := tk' }) :
    wpAny (model prog w) (callerA.deeper (envOfC fLA.name fLA.scope h1.objs.size fa cd)) (execs fLA.body (envOfC fLA.name fLA.scope h1.objs.size fa cd)) Q E s := by
  have r := fun x hx => rs x hx
  have TX := topX_of hT T T' X cHD cHI (rs _ (by simp)) (rs _ (by simp)) k1 k2
  have Γ : Gx prog w p (looseN mg) mean mg mb noΦ 0 := gx_nil X T'.g k3 k4
  have W : Law2 prog w p (looseN mg) mean mg mb 41 37 48 44 :=
    ⟨⟨Γ, gxo_nil, rs _ (by simp), rs _ (by simp), rs _ (by simp), rs _ (by simp), rs _ (by simp), by simp [tabs], by simp [tabs], fun h e => e.1, fun h e => e.2⟩, rs _ (by simp), noneIn_of X T'.g k5, rs _ (by simp), rs _ (by simp), rs _ (by simp), rs _ (by simp), rs _ (by simp)⟩
  have FX : Fx p (looseN mg) mean mg mb callerA (callerA.deeper (envOfC fLA.name fLA.scope h1.objs.size fa cd)) (ghostOf h1 tbs) (ghostOf h1 tbs) [] (envOfC fLA.name fLA.scope h1.objs.size fa cd) ⟨h1.objs.size, []⟩ 20 :=
    ⟨⟨rfl, fun _ h => nomatch h⟩, TX, Around.frames_deeper rfl, rfl, rfl, rfl, (show callerA.depth + 1 + 20 < recursionLimit by decide +kernel), (show callerA.units + 3 + 10 * 20 + 100 < cLine by decide +kernel)⟩
  have caddr := cellsAre_addr Y
  have G : Lg (ghostOf h1 tbs) ⟨h1.objs.size, []⟩ (bindL (envOfC fLA.name fLA.scope h1.objs.size fa cd).kindOf ([Str.ofString "script"].zip [.ref a]) fun _ => none) (cells ++ []) [] s.heap := by
    refine ⟨[(44, tabObj #[]), (37, tabObj #[])], ⟨F, by simpa using N, ?_, fun q _ r hr => nomatch hr⟩, fun t ht => ?_, fun q hq => nomatch hq⟩
    · rw [List.append_nil, List.map_append, List.nodup_append]
      refine ⟨?_, by simp, ?_⟩
      · rw [caddr]
        exact cellsFrom_snd _ _ _ List.nodup_nil (by simp)
      · intro x hx y hy
        rw [caddr] at hx
        obtain ⟨q, hq, rfl⟩ := List.mem_map.mp hx
        have := cellsFrom_ge fLA.scope.names (h1.objs.size + 1) (h1.objs.size + 1) [] (by simp) (Nat.le_refl _) q hq
        simp only [List.map_cons, List.map_nil, List.mem_cons, List.not_mem_nil, or_false] at hy
        intro e
        rcases hy with rfl | rfl
        · have e' : @Eq Nat q.2 44 := e
          have := hsz.1; (first | lia | omega)
        · have e' : @Eq Nat q.2 37 := e
          have := hsz.2; (first | lia | omega)
    · refine ⟨#[], ?_, by simp [TriplesOk], fun pos v e => by simp [codeAmong] at e⟩
      simp only [tabs, List.mem_cons, List.not_mem_nil, or_false] at ht
      rcases ht with rfl | rfl <;> simp
  obtain ⟨o, ho, hc, n, hd⟩ := hl
  have hrep : Reps (ghostOf h1 tbs) [] [.ref a] [zl xs] := by
    refine .cons (.lst (.inl ho) hc hd ?_ (by simpa using reps_ints hi)) .nil
    have := hi.length
    simp
    unfold line24
    (first | lia | omega)
  have H := al0 (g := ghostOf h1 tbs) (fz := []) (name := fLA.name) (sc := fLA.scope) (L' := h1.objs.size) (f := fa) (cdv := cd) (xs := [Str.ofString "script"]) (vs := [.ref a]) (ds := [zl xs]) (by decide +kernel) rfl Y hrep
  obtain ⟨ρ', run⟩ := law2_rets xs hlen
  refine run_sound FX W.Γ (W.B.ΓO.mono' (Nat.zero_le _)) (envOfC_ok rfl) run _ cells [] [] _ _ _ H G ?_
  intro v h' tk' m' fx' add G' ho' hr'
  cases hr'
  obtain ⟨hd, G0, TT⟩ := id G'
  refine hQ h' m' tk' G'.F ?_
  have at' : ∀ t ∈ tabs, GrownAt t.1 h' := fun t ht => by
    obtain ⟨ps, h1, _⟩ := TT.1 t ht
    exact ⟨ps, (G0.N _ (List.mem_append_left _ (List.mem_append_right _ h1))).1⟩
  exact ⟨at' (44, Str.ofString "_digits2int.<locals>.inner") (by simp [tabs]), at' (37, Str.ofString "_int2digits.<locals>.inner") (by simp [tabs]), trivial⟩
end
end Mine
namespace Mine
noncomputable abbrev row2 : OpenRow := PySem.Challenge.rw_wn0059_02.row
theorem said2 : PySem.Challenge.rw_wn0059_02.wellSaid = true := by
  unfold OpenLaw.wellSaid OpenRow.wellSaid OpenRow.partSaid looksOpen
  repeat' (with_reducible refine look_both ?_ ?_)
  all_goals decide +kernel
noncomputable def view2 : Program := view row2.toRowW.prog [1, 3, 4, 5, 6, 7, 8, 9, 11, 12, 13, 14, 15, 16]
noncomputable abbrev hook2 : Hook := ourHook 41 37 48 44 [2, 3, 41, 42, 48, 49]
theorem left2 : LeftO row2.toRowW.prog view2 [] (fun s => xlAt view2 [] s && recOk (RowW.records row2.toRowW) s) (Hook.obs hook2) (Hook.val hook2) 1500 := fun w => by kernel_rfl
end Mine
set_option maxRecDepth 100000 in
set_option maxHeartbeats 8000000 in
theorem PySem.Challenge.cw_wn0059_02_holds : PySem.Challenge.rw_wn0059_02.Holds := by
  (w_on; refine holds_law Mine.said2 fun said => ?_
   refine holds_open (q := Mine.view2) (loose := []) (Xt := fun s => xlAt Mine.view2 [] s && recOk (RowW.records Mine.row2.toRowW) s) (XP := XL Mine.view2 []) (YP := Hook.says Mine.hook2) (N := 1500) Mine.left2 (Hook.of Mine.hook2) (Hook.keeps Mine.hook2) (fun s e => xl_of s (Bool.and_eq_true_iff.mp e).1) XL.keeps (by rfl) (by rfl) (by rfl) (fun s e => recFacts_of (Bool.and_eq_true_iff.mp e).2) (by rfl) (by first | assumption | decide +kernel) (by decide +kernel) ⟨rfl, rfl, rfl, rfl, rfl, by decide +kernel⟩ ?hw ?hc
   (case hw => w_witness2); w_strict (
    intro w s₀ s₁ mg mb G Y fa o pm cd doc dV kV ho hd hcd hD hmg hg args vals as hpre hlay hrd hwl hlo
    obtain ⟨K, KX, gk, t1, t2⟩ := Y
    have hT9 := Mine.tabs_of KX gk t1 t2
    have X := (Ground.X G).1
    have V := (Ground.X G).2
    refine Ground.open G ?_
    intro T B D TE TW
    try (refine guard_noD D (by decide +kernel) ?_; clear D)
    clear hmg
    wrow_args hpre hlay hrd hwl hlo
    all_goals (
      refine enter_call ?_
      w_top on
      refine kn_post hT9 (fun _ _ => rfl) ?_
      w_call any ho hd hcd hD T F
      clear hd
      rename News _ _ _ _ => N
      rename Heap.IsList _ _ _ => LL
      rename IntsAre _ _ => II
      rename CellsAre _ _ _ => YY
      rename ¬ (_ < _) => hc
      have X' := ghost_K hT9 KX (Mine.seenK gk).1
      obtain ⟨-, g1, g2, g3, g4, g5, g6, g7⟩ := Mine.seenK gk
      have l0 := ghost_lt hT9 F
      refine Mine.law2_fin hT9 T (ghost_top hT9 T) X' (codeHd_of_K X' g2) (codeHd_of_K X' g1) g3 g4 g5 g6 g7 (Mine.mem_of_ix (js := [3, 4, 1, 5, 6, 0, 7, 8, 9, 10, 11]) (by kernel_rfl)) (ghost_fr hT9 F) (ghost_news hT9 F N) YY ⟨l0 _ (.head _), l0 _ (.tail _ (.head _))⟩ (ghost_list hT9 LL) II (by omega) ?_
      intro h' m' tk' F' GA
      refine ⟨goodW_bool F' hg (raisesW_false ?_) ?_, GA⟩
      · wrow_none_raised
      · kc_post)))
